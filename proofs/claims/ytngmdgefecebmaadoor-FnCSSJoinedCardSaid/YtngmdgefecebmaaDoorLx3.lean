/- The lexer of CSS, step by step (part 3; printed by gen_css.py). Conditions: as for its first steps. -/
import Derived.Test.YtngmdgefecebmaaDoorLx2
import Derived.Deep.DeepCutAuto
namespace Go.Proofs.YtngmdgefecebmaaDoor
open Go.RowKit
set_option linter.unusedVariables false
set_option linter.unusedSimpArgs false
section
variable {w w' : World} {gl g c pos start : Nat} {A : Option Addr} {l : List UInt8}
/-- Where the input at block g stands. -/
def posOf (w : World) (g : Nat) : Nat := match w.cell? ⟨g, 1, none⟩ with | some (.int _ z) => z.toNat | _ => 0
theorem Lx.posOf (h : Lx w gl g A c l pos start) : posOf w g = pos := by
  unfold Go.Proofs.YtngmdgefecebmaaDoor.posOf
  rw [h.inp.c1]
  simp
set_option maxRecDepth 100000 in
set_option maxHeartbeats 4000000 in
theorem hashtoken_eats (h : Lx w gl g A c l pos start) (hlt : pos < l.length) :
    Calls Tryd.prog 21 #[.pointer (some ⟨gl, 0, none⟩)] w (Eats gl g A c l pos start w) := by
  have c0 := h.cell
  have np := h.np
  have sp := h.sp
  have hL := h
  have hG := World.grownBy.refl w (some g)
  clear h
  go_enter Tryd.func21, Tryd.ntmps21
  go_upto_region 4 with (first
    | (go_at_call 16; (with_reducible refine (lpeek0 hL (by have := hL.np; first | omega | ((try unfold Seen at *); (try simp only [beq_iff_eq, beq_eq_false_iff_ne, bne_iff_ne, bne_eq_false_iff_eq, ne_eq, Bool.or_eq_true] at *); omega))).mono ?_); rintro e w2 ⟨x0, rfl, hs0, rfl⟩)
    | (go_at_call 34; (with_reducible refine (lpos hL).mono ?_); rintro e w2 ⟨rfl, n2, rfl⟩; replace hG := hG.trans (grown_drewN _ n2 (some g)); replace hL := hL.drewN n2; have c0 := hL.cell)
    | (go_at_call 17; (with_reducible refine (lmove1 hL (by have := hL.np; first | omega | ((try unfold Seen at *); (try simp only [beq_iff_eq, beq_eq_false_iff_ne, bne_iff_ne, bne_eq_false_iff_eq, ne_eq, Bool.or_eq_true] at *); omega))).mono ?_); rintro e w2 ⟨rfl, hL, hg⟩; replace hG := hG.trans hg; have c0 := hL.cell))
  go_cut [4, 55] from 6 to 125 (fun xv sv wx => ∃ (y : Int) (b : Bool), xv = .int .u8 y ∧ sv = .bool b ∧ (b = false → pos + 1 + 1 ≤ l.length) ∧ Lx wx gl g A c l (pos + 1) start ∧ w.grownBy wx (some g))
  case first =>
    go_wp2_with fail
    all_goals (go_meet; exact ⟨_, _, rfl, rfl, by first | (intro h; cases h; done) | (intro _; unfold Seen at *; omega) | (intro h; rcases Int.lt_or_le 0 (x0.toNat : Int) with h0 | h0; (unfold Seen at *; omega); (have hz : (x0.toNat : Int) = 0 := by omega); simp [hz] at h), hL, hG⟩)
  case rest =>
    obtain ⟨y, b, rfl, rfl, hb, hL, hG⟩ := hcut
    have c0 := hL.cell
    have hlp := hL.np
    cases b
    · have hb0 := hb rfl
      go_wp2_with (first
        | (go_at_call 17; (with_reducible refine (lmove1 hL (by have := hL.np; first | omega | ((try unfold Seen at *); (try simp only [beq_iff_eq, beq_eq_false_iff_ne, bne_iff_ne, bne_eq_false_iff_eq, ne_eq, Bool.or_eq_true] at *); omega))).mono ?_); rintro e w2 ⟨rfl, hL, hg⟩; replace hG := hG.trans hg; have c0 := hL.cell))
      go_loopg [] (l.length) (fun gk wr => ∃ p : Nat, l.length - p ≤ gk ∧ Lx wr gl g A c l p start ∧ w.grownBy wr (some g) ∧ pos < p)
      case atStart => exact ⟨_, by omega, hL, hG, by omega⟩
      case round =>
        obtain ⟨p, hgk, hL, hG, hp⟩ := hrel
        have c0 := hL.cell
        have hlp := hL.np
        go_upto_region 10 with (first
          | (go_at_call 16; (with_reducible refine (lpeek0 hL (by have := hL.np; first | omega | ((try unfold Seen at *); (try simp only [beq_iff_eq, beq_eq_false_iff_ne, bne_iff_ne, bne_eq_false_iff_eq, ne_eq, Bool.or_eq_true] at *); omega))).mono ?_); rintro e w2 ⟨x0, rfl, hs0, rfl⟩))
        go_cut [5, 113] from 74 to 125 (fun xv sv wx => ∃ (y : Int) (b : Bool), xv = .int .u8 y ∧ sv = .bool b ∧ (b = false → p + 1 ≤ l.length) ∧ Lx wx gl g A c l (p) start ∧ w.grownBy wx (some g))
        case first =>
          go_wp2_with fail
          all_goals (go_meet; exact ⟨_, _, rfl, rfl, by first | (intro h; cases h; done) | (intro _; unfold Seen at *; omega) | (intro h; rcases Int.lt_or_le 0 (x0.toNat : Int) with h0 | h0; (unfold Seen at *; omega); (have hz : (x0.toNat : Int) = 0 := by omega); simp [hz] at h), hL, hG⟩)
        case rest =>
          obtain ⟨y, b, rfl, rfl, hb, hL, hG⟩ := hcut
          have c0 := hL.cell
          have hlp := hL.np
          cases b
          · have hb0 := hb rfl
            go_wp2_with (first
              | (go_at_call 17; (with_reducible refine (lmove1 hL (by have := hL.np; first | omega | ((try unfold Seen at *); (try simp only [beq_iff_eq, beq_eq_false_iff_ne, bne_iff_ne, bne_eq_false_iff_eq, ne_eq, Bool.or_eq_true] at *); omega))).mono ?_); rintro e w2 ⟨rfl, hL, hg⟩; replace hG := hG.trans hg; have c0 := hL.cell))
            go_roundg (l.length - (p + 1))
            case rel => exact ⟨_, Nat.le_refl _, hL, hG, by omega⟩
            case measure => (have := hL.np; omega)
          · skip
            go_wp2_with (first
              | (go_at_call 35; (with_reducible refine ((two (escape_eats hL)).mono ?_)); rintro e w2 (⟨rfl, hL, hg⟩ | ⟨p2, ht2, rfl, hL, hg⟩); all_goals (replace hG := hG.trans hg; have c0 := hL.cell; have hle := hL.np)))
            all_goals first
              | (go_ret; exact ⟨_, _, rfl, hL, hG, fun h => by first | (cases h; done) | rfl | omega, fun h => by first | (cases h; done) | omega⟩)
              | (go_roundg (l.length - p2); (case rel => exact ⟨_, Nat.le_refl _, hL, hG, by omega⟩); (case measure => omega))
    · skip
      go_wp2_with (first
        | (go_at_call 35; (with_reducible refine ((two (escape_eats hL)).mono ?_)); rintro e w2 (⟨rfl, hL, hg⟩ | ⟨p2, ht2, rfl, hL, hg⟩); all_goals (replace hG := hG.trans hg; have c0 := hL.cell; have hle := hL.np))
        | (go_at_call 36; (with_reducible refine (lrewind pos _ hL (by omega) (by omega) (by omega)).mono ?_); rintro e w2 ⟨rfl, hL, hg⟩; replace hG := hG.trans hg; have c0 := hL.cell))
      all_goals try (go_ret; exact ⟨_, _, rfl, hL, hG, fun h => by first | (cases h; done) | rfl | omega, fun h => by first | (cases h; done) | omega⟩)
      go_loopg [] (l.length) (fun gk wr => ∃ p : Nat, l.length - p ≤ gk ∧ Lx wr gl g A c l p start ∧ w.grownBy wr (some g) ∧ pos < p)
      case atStart => exact ⟨_, by omega, hL, hG, by omega⟩
      case round =>
        obtain ⟨p, hgk, hL, hG, hp⟩ := hrel
        have c0 := hL.cell
        have hlp := hL.np
        go_upto_region 10 with (first
          | (go_at_call 16; (with_reducible refine (lpeek0 hL (by have := hL.np; first | omega | ((try unfold Seen at *); (try simp only [beq_iff_eq, beq_eq_false_iff_ne, bne_iff_ne, bne_eq_false_iff_eq, ne_eq, Bool.or_eq_true] at *); omega))).mono ?_); rintro e w2 ⟨x0, rfl, hs0, rfl⟩))
        go_cut [5, 113] from 74 to 125 (fun xv sv wx => ∃ (y : Int) (b : Bool), xv = .int .u8 y ∧ sv = .bool b ∧ (b = false → p + 1 ≤ l.length) ∧ Lx wx gl g A c l (p) start ∧ w.grownBy wx (some g))
        case first =>
          go_wp2_with fail
          all_goals (go_meet; exact ⟨_, _, rfl, rfl, by first | (intro h; cases h; done) | (intro _; unfold Seen at *; omega) | (intro h; rcases Int.lt_or_le 0 (x0.toNat : Int) with h0 | h0; (unfold Seen at *; omega); (have hz : (x0.toNat : Int) = 0 := by omega); simp [hz] at h), hL, hG⟩)
        case rest =>
          obtain ⟨y, b, rfl, rfl, hb, hL, hG⟩ := hcut
          have c0 := hL.cell
          have hlp := hL.np
          cases b
          · have hb0 := hb rfl
            go_wp2_with (first
              | (go_at_call 17; (with_reducible refine (lmove1 hL (by have := hL.np; first | omega | ((try unfold Seen at *); (try simp only [beq_iff_eq, beq_eq_false_iff_ne, bne_iff_ne, bne_eq_false_iff_eq, ne_eq, Bool.or_eq_true] at *); omega))).mono ?_); rintro e w2 ⟨rfl, hL, hg⟩; replace hG := hG.trans hg; have c0 := hL.cell))
            go_roundg (l.length - (p + 1))
            case rel => exact ⟨_, Nat.le_refl _, hL, hG, by omega⟩
            case measure => (have := hL.np; omega)
          · skip
            go_wp2_with (first
              | (go_at_call 35; (with_reducible refine ((two (escape_eats hL)).mono ?_)); rintro e w2 (⟨rfl, hL, hg⟩ | ⟨p2, ht2, rfl, hL, hg⟩); all_goals (replace hG := hG.trans hg; have c0 := hL.cell; have hle := hL.np)))
            all_goals first
              | (go_ret; exact ⟨_, _, rfl, hL, hG, fun h => by first | (cases h; done) | rfl | omega, fun h => by first | (cases h; done) | omega⟩)
              | (go_roundg (l.length - p2); (case rel => exact ⟨_, Nat.le_refl _, hL, hG, by omega⟩); (case measure => omega))
end
end Go.Proofs.YtngmdgefecebmaaDoor
