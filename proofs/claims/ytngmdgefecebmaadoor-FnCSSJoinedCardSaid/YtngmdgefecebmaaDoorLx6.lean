/- The lexer of CSS, step by step (part 6; printed by gen_css.py). Conditions: as for its first steps. -/
import Derived.Test.YtngmdgefecebmaaDoorLxB
import Derived.Deep.DeepCutAuto
namespace Go.Proofs.YtngmdgefecebmaaDoor
open Go.RowKit
set_option linter.unusedVariables false
set_option linter.unusedSimpArgs false
section
variable {w w' : World} {gl g c pos start : Nat} {A : Option Addr} {l : List UInt8}
set_option maxRecDepth 100000 in
set_option maxHeartbeats 4000000 in
theorem comment_eats (h : Lx w gl g A c l pos start) :
    Calls Tryd.prog 29 #[.pointer (some ⟨gl, 0, none⟩)] w (Eats gl g A c l pos start w) := by
  have c0 := h.cell
  have np := h.np
  have sp := h.sp
  have hL := h
  have hG := World.grownBy.refl w (some g)
  clear h
  go_enter Tryd.func29, Tryd.ntmps29
  go_wp2_with (first
    | (go_at_call 16; (with_reducible refine (lpeek0 hL (by have := hL.np; first | omega | ((try unfold Seen at *); (try simp only [beq_iff_eq, beq_eq_false_iff_ne, bne_iff_ne, bne_eq_false_iff_eq, ne_eq, Bool.or_eq_true] at *); omega))).mono ?_); rintro e w2 ⟨x0, rfl, hs0, rfl⟩)
    | (go_at_call 16; (with_reducible refine (lpeek1 hL (by have := hL.np; first | omega | ((try unfold Seen at *); (try simp only [beq_iff_eq, beq_eq_false_iff_ne, bne_iff_ne, bne_eq_false_iff_eq, ne_eq, Bool.or_eq_true] at *); omega))).mono ?_); rintro e w2 ⟨x1, rfl, hs1, rfl⟩)
    | (go_at_call 17; (with_reducible refine (lmove2 hL (by have := hL.np; first | omega | ((try unfold Seen at *); (try simp only [beq_iff_eq, beq_eq_false_iff_ne, bne_iff_ne, bne_eq_false_iff_eq, ne_eq, Bool.or_eq_true] at *); omega))).mono ?_); rintro e w2 ⟨rfl, hL, hg⟩; replace hG := hG.trans hg; have c0 := hL.cell))
  all_goals try (go_ret; exact ⟨_, _, rfl, hL, hG, fun h => by first | (cases h; done) | rfl | omega, fun h => by first | (cases h; done) | omega⟩)
  go_loopg [] (l.length) (fun gk wr => ∃ p : Nat, l.length - p ≤ gk ∧ Lx wr gl g A c l p start ∧ w.grownBy wr (some g) ∧ pos < p)
  case atStart => exact ⟨_, by omega, hL, hG, by omega⟩
  case round =>
    obtain ⟨p, hgk, hL, hG, hp⟩ := hrel
    have c0 := hL.cell
    have hlp := hL.np
    go_wp2_with (first
      | (go_at_call 16; (with_reducible refine (lpeek0 hL (by have := hL.np; first | omega | ((try unfold Seen at *); (try simp only [beq_iff_eq, beq_eq_false_iff_ne, bne_iff_ne, bne_eq_false_iff_eq, ne_eq, Bool.or_eq_true] at *); omega))).mono ?_); rintro e w2 ⟨x0, rfl, hs0, rfl⟩)
      | (go_at_call 16; (with_reducible refine (lpeek1 hL (by have := hL.np; first | omega | ((try unfold Seen at *); (try simp only [beq_iff_eq, beq_eq_false_iff_ne, bne_iff_ne, bne_eq_false_iff_eq, ne_eq, Bool.or_eq_true] at *); omega))).mono ?_); rintro e w2 ⟨x1, rfl, hs1, rfl⟩)
      | (go_at_call 33; (with_reducible refine (lerr_end hL (by have := hL.np; first | omega | ((try unfold Seen at *); (try simp only [beq_iff_eq, beq_eq_false_iff_ne, bne_iff_ne, bne_eq_false_iff_eq, ne_eq, Bool.or_eq_true] at *); omega))).mono ?_); rintro e w2 ⟨⟨T, a, rfl⟩, n2, rfl⟩; replace hG := hG.trans (grown_drewN _ n2 (some g)); replace hL := hL.drewN n2; have c0 := hL.cell)
      | (go_at_call 17; (with_reducible refine (lmove2 hL (by have := hL.np; first | omega | ((try unfold Seen at *); (try simp only [beq_iff_eq, beq_eq_false_iff_ne, bne_iff_ne, bne_eq_false_iff_eq, ne_eq, Bool.or_eq_true] at *); omega))).mono ?_); rintro e w2 ⟨rfl, hL, hg⟩; replace hG := hG.trans hg; have c0 := hL.cell)
      | (go_at_call 17; (with_reducible refine (lmove1 hL (by have := hL.np; first | omega | ((try unfold Seen at *); (try simp only [beq_iff_eq, beq_eq_false_iff_ne, bne_iff_ne, bne_eq_false_iff_eq, ne_eq, Bool.or_eq_true] at *); omega))).mono ?_); rintro e w2 ⟨rfl, hL, hg⟩; replace hG := hG.trans hg; have c0 := hL.cell))
    all_goals first
      | (go_ret; exact ⟨_, _, rfl, hL, hG, fun h => by first | (cases h; done) | rfl | omega, fun h => by first | (cases h; done) | omega⟩)
      | (go_roundg (l.length - (p + 1)); (case rel => exact ⟨_, Nat.le_refl _, hL, hG, by omega⟩); (case measure => (have := hL.np; omega)))
set_option maxRecDepth 100000 in
set_option maxHeartbeats 4000000 in
theorem string_eats (h : Lx w gl g A c l pos start) (hlt : pos < l.length) :
    Calls Tryd.prog 22 #[.pointer (some ⟨gl, 0, none⟩)] w (Kind gl g A c l pos start w) := by
  have c0 := h.cell
  have np := h.np
  have sp := h.sp
  have hL := h
  have hG := World.grownBy.refl w (some g)
  clear h
  go_enter Tryd.func22, Tryd.ntmps22
  go_wp2_with (first
    | (go_at_call 16; (with_reducible refine (lpeek0 hL (by have := hL.np; first | omega | ((try unfold Seen at *); (try simp only [beq_iff_eq, beq_eq_false_iff_ne, bne_iff_ne, bne_eq_false_iff_eq, ne_eq, Bool.or_eq_true] at *); omega))).mono ?_); rintro e w2 ⟨x0, rfl, hs0, rfl⟩)
    | (go_at_call 17; (with_reducible refine (lmove1 hL (by have := hL.np; first | omega | ((try unfold Seen at *); (try simp only [beq_iff_eq, beq_eq_false_iff_ne, bne_iff_ne, bne_eq_false_iff_eq, ne_eq, Bool.or_eq_true] at *); omega))).mono ?_); rintro e w2 ⟨rfl, hL, hg⟩; replace hG := hG.trans hg; have c0 := hL.cell))
  go_loopg [] (l.length) (fun gk wr => ∃ p : Nat, l.length - p ≤ gk ∧ Lx wr gl g A c l p start ∧ w.grownBy wr (some g) ∧ pos < p)
  case atStart => exact ⟨_, by omega, hL, hG, by omega⟩
  case round =>
    obtain ⟨p, hgk, hL, hG, hp⟩ := hrel
    have c0 := hL.cell
    have hlp := hL.np
    go_wp2_with (first
      | (go_at_call 16; (with_reducible refine (lpeek0 hL (by have := hL.np; first | omega | ((try unfold Seen at *); (try simp only [beq_iff_eq, beq_eq_false_iff_ne, bne_iff_ne, bne_eq_false_iff_eq, ne_eq, Bool.or_eq_true] at *); omega))).mono ?_); rintro e w2 ⟨x0, rfl, hs0, rfl⟩)
      | (go_at_call 33; (with_reducible refine (lerr_end hL (by have := hL.np; first | omega | ((try unfold Seen at *); (try simp only [beq_iff_eq, beq_eq_false_iff_ne, bne_iff_ne, bne_eq_false_iff_eq, ne_eq, Bool.or_eq_true] at *); omega))).mono ?_); rintro e w2 ⟨⟨T, a, rfl⟩, n2, rfl⟩; replace hG := hG.trans (grown_drewN _ n2 (some g)); replace hL := hL.drewN n2; have c0 := hL.cell)
      | (go_at_call 35; (with_reducible refine ((two (escape_eats hL)).mono ?_)); rintro e w2 (⟨rfl, hL, hg⟩ | ⟨p2, ht2, rfl, hL, hg⟩); all_goals (replace hG := hG.trans hg; have c0 := hL.cell; have hle := hL.np))
      | (go_at_call 37; (with_reducible refine ((two (newline_eats hL)).mono ?_)); rintro e w2 (⟨rfl, hL, hg⟩ | ⟨p2, ht2, rfl, hL, hg⟩); all_goals (replace hG := hG.trans hg; have c0 := hL.cell; have hle := hL.np))
      | (go_at_call 17; (with_reducible refine (lmove1 hL (by have := hL.np; first | omega | ((try unfold Seen at *); (try simp only [beq_iff_eq, beq_eq_false_iff_ne, bne_iff_ne, bne_eq_false_iff_eq, ne_eq, Bool.or_eq_true] at *); omega))).mono ?_); rintro e w2 ⟨rfl, hL, hg⟩; replace hG := hG.trans hg; have c0 := hL.cell))
    all_goals first
      | (go_ret; exact ⟨_, _, rfl, ⟨by first | decide | omega, by first | decide | omega⟩, hL, hG, fun h => by first | rfl | omega | (exact absurd h (by decide)), fun h => by first | omega | (exact absurd rfl h)⟩)
      | (go_roundg (l.length - (p + 1)); (case rel => exact ⟨_, Nat.le_refl _, hL, hG, by omega⟩); (case measure => (have := hL.np; omega)))
      | (go_roundg (l.length - (p2)); (case rel => exact ⟨_, Nat.le_refl _, hL, hG, by omega⟩); (case measure => (have := hL.np; omega)))
set_option maxRecDepth 100000 in
set_option maxHeartbeats 4000000 in
theorem unicoderangetoken_eats (h : Lx w gl g A c l pos start) :
    Calls Tryd.prog 31 #[.pointer (some ⟨gl, 0, none⟩)] w (Eats gl g A c l pos start w) := by
  have c0 := h.cell
  have np := h.np
  have sp := h.sp
  have hL := h
  have hG := World.grownBy.refl w (some g)
  clear h
  go_enter Tryd.func31, Tryd.ntmps31
  go_upto_region 2 with (first
    | (go_at_call 16; (with_reducible refine (lpeek0 hL (by have := hL.np; first | omega | ((try unfold Seen at *); (try simp only [beq_iff_eq, beq_eq_false_iff_ne, bne_iff_ne, bne_eq_false_iff_eq, ne_eq, Bool.or_eq_true] at *); omega))).mono ?_); rintro e w2 ⟨x0, rfl, hs0, rfl⟩))
  go_cut [3, 24] from 6 (fun xv v wx => ∃ (y : Int) (b : Bool), xv = .int .u8 y ∧ v = .bool b ∧ (b = false → pos + 2 ≤ l.length) ∧ Lx wx gl g A c l pos start ∧ w.grownBy wx (some g))
  case first =>
    go_wp2_with (first
      | (go_at_call 16; (with_reducible refine (lpeek1 hL (by have := hL.np; first | omega | ((try unfold Seen at *); (try simp only [beq_iff_eq, beq_eq_false_iff_ne, bne_iff_ne, bne_eq_false_iff_eq, ne_eq, Bool.or_eq_true] at *); omega))).mono ?_); rintro e w2 ⟨x1, rfl, hs1, rfl⟩))
    all_goals (go_meet; exact ⟨_, _, rfl, rfl, by first | (intro h; cases h; done) | (intro _; unfold Seen at *; simp only [beq_iff_eq, beq_eq_false_iff_ne, bne_iff_ne, bne_eq_false_iff_eq, ne_eq, Bool.or_eq_true] at *; omega) | (intro hh; simp at hh; unfold Seen at *; simp only [beq_iff_eq, beq_eq_false_iff_ne, bne_iff_ne, bne_eq_false_iff_eq, ne_eq, Bool.or_eq_true] at *; omega), hL, hG⟩)
  case rest =>
    obtain ⟨y, b, rfl, rfl, hb, hL, hG⟩ := hcut
    have c0 := hL.cell
    have hll := hL.hl
    cases b
    · have hl2 := hb rfl
      clear hb
      go_wp2_with (first
        | (go_at_call 34; (with_reducible refine (lpos hL).mono ?_); rintro e w2 ⟨rfl, n2, rfl⟩; replace hG := hG.trans (grown_drewN _ n2 (some g)); replace hL := hL.drewN n2; have c0 := hL.cell)
        | (go_at_call 17; (with_reducible refine (lmove2 hL (by have := hL.np; first | omega | ((try unfold Seen at *); (try simp only [beq_iff_eq, beq_eq_false_iff_ne, bne_iff_ne, bne_eq_false_iff_eq, ne_eq, Bool.or_eq_true] at *); omega))).mono ?_); rintro e w2 ⟨rfl, hL, hg⟩; replace hG := hG.trans hg; have c0 := hL.cell))
      go_loopg [5] (l.length) (fun gk kv wr => ∃ (k1 p1 : Nat), kv = .int .i64 (k1 : Int) ∧ l.length - p1 ≤ gk ∧ k1 ≤ p1 ∧ Lx wr gl g A c l p1 start ∧ w.grownBy wr (some g) ∧ pos < p1)
      case atStart => exact ⟨0, _, by go_num, by omega, by omega, hL, hG, by omega⟩
      case round =>
       obtain ⟨k1, p1, rfl, hgk, hk1, hL, hG, hp1⟩ := hrel
       have c0 := hL.cell
       have hlp1 := hL.np
       go_upto_region 9 with (first
         | (go_at_call 46; (with_reducible refine ((two (hexdigit_eats hL)).mono ?_)); rintro e w2 (⟨rfl, hL, hg⟩ | ⟨p2, ht2, rfl, hL, hg⟩); all_goals (replace hG := hG.trans hg; have c0 := hL.cell; have hle := hL.np)))
       ·skip
        go_cut [40] from 6 (fun v wx => ∃ (b : Bool) (q : Nat), v = .bool b ∧ p1 ≤ q ∧ Lx wx gl g A c l q start ∧ w.grownBy wx (some g))
        case first =>
          go_wp2_with (first
            | (go_at_call 39; (with_reducible refine ((two (byte45 hL)).mono ?_)); rintro e w2 (⟨rfl, hL, hg⟩ | ⟨p2, ht2, rfl, hL, hg⟩); all_goals (replace hG := hG.trans hg; have c0 := hL.cell; have hle := hL.np)))
          all_goals (go_meet; exact ⟨_, _, rfl, by omega, hL, hG⟩)
        case rest =>
          obtain ⟨b, q, rfl, hq, hL, hG⟩ := hcut
          have c0 := hL.cell
          have hlq := hL.np
          go_upto_if 40 with fail
          go_cut [5] from 6 (fun kv wx => ∃ (k p : Nat), kv = .int .i64 (k : Int) ∧ k ≤ p ∧ Lx wx gl g A c l p start ∧ w.grownBy wx (some g) ∧ pos < p)
          case first =>
            cases b
            · skip
              go_wp2_with (first
                | (go_at_call 39; (with_reducible refine ((two (byte63 hL)).mono ?_)); rintro e w2 (⟨rfl, hL, hg⟩ | ⟨p2, ht2, rfl, hL, hg⟩); all_goals (replace hG := hG.trans hg; have c0 := hL.cell; have hle := hL.np)))
              all_goals first
                | (go_meet; exact ⟨k1, _, rfl, by omega, hL, hG, by omega⟩)
                | skip
              go_loopg [5] (l.length) (fun gk kv wr => ∃ (k p : Nat), kv = .int .i64 (k : Int) ∧ l.length - p ≤ gk ∧ k ≤ p ∧ Lx wr gl g A c l p start ∧ w.grownBy wr (some g) ∧ pos < p)
              case atStart => exact ⟨k1 + 1, _, by go_num, by omega, by omega, hL, hG, by omega⟩
              case round =>
                obtain ⟨k, p, rfl, hgk, hkp, hL, hG, hp⟩ := hrel
                have c0 := hL.cell
                have hlp := hL.np
                go_wp2_with (first
                  | (go_at_call 39; (with_reducible refine ((two (byte63 hL)).mono ?_)); rintro e w2 (⟨rfl, hL, hg⟩ | ⟨p2, ht2, rfl, hL, hg⟩); all_goals (replace hG := hG.trans hg; have c0 := hL.cell; have hle := hL.np)))
                all_goals first
                  | (go_meet; exact ⟨_, _, rfl, hkp, hL, hG, by omega⟩)
                  | (go_roundg (l.length - p2); (case rel => exact ⟨k + 1, _, by go_num, Nat.le_refl _, by omega, hL, hG, by omega⟩); (case measure => omega))
            · skip
              go_wp2_with (first
                | (go_at_call 46; (with_reducible refine ((two (hexdigit_eats hL)).mono ?_)); rintro e w2 (⟨rfl, hL, hg⟩ | ⟨p2, ht2, rfl, hL, hg⟩); all_goals (replace hG := hG.trans hg; have c0 := hL.cell; have hle := hL.np))
                | (go_at_call 36; (with_reducible refine (lrewind pos _ hL (by omega) (by omega) (by omega)).mono ?_); rintro e w2 ⟨rfl, hL, hg⟩; replace hG := hG.trans hg; have c0 := hL.cell))
              all_goals first
                | (go_ret; exact ⟨_, _, rfl, hL, hG, fun h => by first | (cases h; done) | rfl | omega, fun h => by first | (cases h; done) | omega⟩)
                | skip
              go_loopg [5] (l.length) (fun gk kv wr => ∃ (k p : Nat), kv = .int .i64 (k : Int) ∧ l.length - p ≤ gk ∧ k ≤ p ∧ Lx wr gl g A c l p start ∧ w.grownBy wr (some g) ∧ pos < p)
              case atStart => exact ⟨1, _, by go_num, by omega, by omega, hL, hG, by omega⟩
              case round =>
                obtain ⟨k, p, rfl, hgk, hkp, hL, hG, hp⟩ := hrel
                have c0 := hL.cell
                have hlp := hL.np
                go_wp2_with (first
                  | (go_at_call 46; (with_reducible refine ((two (hexdigit_eats hL)).mono ?_)); rintro e w2 (⟨rfl, hL, hg⟩ | ⟨p2, ht2, rfl, hL, hg⟩); all_goals (replace hG := hG.trans hg; have c0 := hL.cell; have hle := hL.np)))
                all_goals first
                  | (go_meet; exact ⟨_, _, rfl, hkp, hL, hG, by omega⟩)
                  | (go_roundg (l.length - p2); (case rel => exact ⟨k + 1, _, by go_num, Nat.le_refl _, by omega, hL, hG, by omega⟩); (case measure => omega))
          case rest =>
            obtain ⟨k2, p2, rfl, hk2, hL, hG, hp2⟩ := hcut
            have c0 := hL.cell
            have hlp2 := hL.np
            go_wp2_with (first
              | (go_at_call 36; (with_reducible refine (lrewind pos _ hL (by omega) (by omega) (by omega)).mono ?_); rintro e w2 ⟨rfl, hL, hg⟩; replace hG := hG.trans hg; have c0 := hL.cell))
            all_goals (go_ret; exact ⟨_, _, rfl, hL, hG, fun h => by first | (cases h; done) | rfl | omega, fun h => by first | (cases h; done) | omega⟩)
       ·(go_roundg (l.length - p2); (case rel => exact ⟨k1 + 1, _, by go_num, Nat.le_refl _, by omega, hL, hG, by omega⟩); (case measure => omega))
    · go_wp2_with fail
      go_ret
      exact ⟨_, _, rfl, hL, hG, fun h => by first | (cases h; done) | rfl | omega, fun h => by first | (cases h; done) | omega⟩
end
end Go.Proofs.YtngmdgefecebmaaDoor
