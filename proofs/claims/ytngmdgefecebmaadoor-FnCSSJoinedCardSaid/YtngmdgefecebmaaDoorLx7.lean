/- The lexer of CSS, step by step (part 7; printed by gen_css.py). Conditions: as for its first steps. -/
import Derived.Test.YtngmdgefecebmaaDoorLxB
import Derived.Deep.DeepCutAuto
namespace Go.Proofs.YtngmdgefecebmaaDoor
open Go.RowKit
set_option linter.unusedVariables false
set_option linter.unusedSimpArgs false
section
variable {w w' : World} {gl g c pos start : Nat} {A : Option Addr} {l : List UInt8}
set_option maxRecDepth 100000 in
set_option maxHeartbeats 4000000 in
theorem unquotedurl_eats (h : Lx w gl g A c l pos start) :
    Calls Tryd.prog 45 #[.pointer (some ⟨gl, 0, none⟩)] w (Goes gl g A c l pos start w) := by
  have c0 := h.cell
  have np := h.np
  have sp := h.sp
  have hL := h
  have hG := World.grownBy.refl w (some g)
  clear h
  go_enter Tryd.func45, Tryd.ntmps45
  go_wp2_with fail
  go_loopg [] (l.length) (fun gk wr => ∃ p : Nat, l.length - p ≤ gk ∧ Lx wr gl g A c l p start ∧ w.grownBy wr (some g) ∧ pos ≤ p)
  case atStart => exact ⟨_, by omega, hL, hG, by omega⟩
  case round =>
    obtain ⟨p, hgk, hL, hG, hp⟩ := hrel
    have c0 := hL.cell
    have hlp := hL.np
    go_upto_region 3 with (first
      | (go_at_call 16; (with_reducible refine (lpeek0 hL (by have := hL.np; first | omega | ((try unfold Seen at *); (try simp only [beq_iff_eq, beq_eq_false_iff_ne, bne_iff_ne, bne_eq_false_iff_eq, ne_eq, Bool.or_eq_true] at *); omega))).mono ?_); rintro e w2 ⟨x0, rfl, hs0, rfl⟩)
      | (go_at_call 33; (with_reducible refine (lerr_end hL (by have := hL.np; first | omega | ((try unfold Seen at *); (try simp only [beq_iff_eq, beq_eq_false_iff_ne, bne_iff_ne, bne_eq_false_iff_eq, ne_eq, Bool.or_eq_true] at *); omega))).mono ?_); rintro e w2 ⟨⟨T, a, rfl⟩, n2, rfl⟩; replace hG := hG.trans (grown_drewN _ n2 (some g)); replace hL := hL.drewN n2; have c0 := hL.cell))
    all_goals first
      | (go_ret; exact ⟨_, _, rfl, by omega, hL, hG⟩)
      | skip
    go_cut [3, 48] from 4 to 60 (fun xv sv wx => ∃ (y : Int) (b : Bool), xv = .int .u8 y ∧ sv = .bool b ∧ (b = false → p + 1 ≤ l.length) ∧ Lx wx gl g A c l p start ∧ w.grownBy wx (some g))
    case first =>
      go_wp2_with fail
      all_goals (go_meet; exact ⟨_, _, rfl, rfl, by first | (intro h; cases h; done) | (intro _; unfold Seen at *; omega) | (intro hh; (try simp at hh); unfold Seen at *; (try simp only [beq_iff_eq, beq_eq_false_iff_ne, bne_iff_ne, bne_eq_false_iff_eq, ne_eq, Bool.or_eq_true] at *); omega), hL, hG⟩)
    case rest =>
      obtain ⟨y, b, rfl, rfl, hb, hL, hG⟩ := hcut
      have c0 := hL.cell
      cases b
      · have hb0 := hb rfl
        go_wp2_with (first
          | (go_at_call 17; (with_reducible refine (lmove1 hL (by have := hL.np; first | omega | ((try unfold Seen at *); (try simp only [beq_iff_eq, beq_eq_false_iff_ne, bne_iff_ne, bne_eq_false_iff_eq, ne_eq, Bool.or_eq_true] at *); omega))).mono ?_); rintro e w2 ⟨rfl, hL, hg⟩; replace hG := hG.trans hg; have c0 := hL.cell))
        go_roundg (l.length - (p + 1))
        case rel => exact ⟨_, Nat.le_refl _, hL, hG, by omega⟩
        case measure => (have := hL.np; omega)
      · skip
        go_wp2_with (first
          | (go_at_call 35; (with_reducible refine ((two (escape_eats hL)).mono ?_)); rintro e w2 (⟨rfl, hL, hg⟩ | ⟨p2, ht2, rfl, hL, hg⟩); all_goals (replace hG := hG.trans hg; have c0 := hL.cell; have hle := hL.np)))
        all_goals first
          | (go_ret; exact ⟨_, _, rfl, by omega, hL, hG⟩)
          | (go_roundg (l.length - p2); (case rel => exact ⟨_, Nat.le_refl _, hL, hG, by omega⟩); (case measure => omega))
/-- A step that tells nothing. -/
def Runs (gl g : Nat) (A : Option Addr) (c : Nat) (l : List UInt8) (pos start : Nat) (w : World) (e : Ending) (w' : World) : Prop :=
  ∃ p : Nat, e = .returned unit ∧ pos ≤ p ∧ Lx w' gl g A c l p start ∧ w.grownBy w' (some g)
set_option maxRecDepth 100000 in
set_option maxHeartbeats 4000000 in
theorem remnantsbadurl_eats (h : Lx w gl g A c l pos start) :
    Calls Tryd.prog 44 #[.pointer (some ⟨gl, 0, none⟩)] w (Runs gl g A c l pos start w) := by
  have c0 := h.cell
  have np := h.np
  have sp := h.sp
  have hL := h
  have hG := World.grownBy.refl w (some g)
  clear h
  go_enter Tryd.func44, Tryd.ntmps44
  go_wp2_with fail
  go_loopg [] (l.length) (fun gk wr => ∃ p : Nat, l.length - p ≤ gk ∧ Lx wr gl g A c l p start ∧ w.grownBy wr (some g) ∧ pos ≤ p)
  case atStart => exact ⟨_, by omega, hL, hG, by omega⟩
  case round =>
    obtain ⟨p, hgk, hL, hG, hp⟩ := hrel
    have c0 := hL.cell
    have hlp := hL.np
    go_wp2_with (first
      | (go_at_call 39; (with_reducible refine ((two (byte41 hL)).mono ?_)); rintro e w2 (⟨rfl, hL, hg⟩ | ⟨p2, ht2, rfl, hL, hg⟩); all_goals (replace hG := hG.trans hg; have c0 := hL.cell; have hle := hL.np))
      | (go_at_call 33; (with_reducible refine (lerr hL).mono ?_); rintro e w2 ⟨(⟨hk, rfl⟩ | ⟨hk, T, a, rfl⟩), n2, rfl⟩; all_goals (replace hG := hG.trans (grown_drewN _ n2 (some g)); replace hL := hL.drewN n2; have c0 := hL.cell))
      | (go_at_call 35; (with_reducible refine ((two (escape_eats hL)).mono ?_)); rintro e w2 (⟨rfl, hL, hg⟩ | ⟨p2, ht2, rfl, hL, hg⟩); all_goals (replace hG := hG.trans hg; have c0 := hL.cell; have hle := hL.np))
      | (go_at_call 17; (with_reducible refine (lmove1 hL (by have := hL.np; first | omega | ((try unfold Seen at *); (try simp only [beq_iff_eq, beq_eq_false_iff_ne, bne_iff_ne, bne_eq_false_iff_eq, ne_eq, Bool.or_eq_true] at *); omega))).mono ?_); rintro e w2 ⟨rfl, hL, hg⟩; replace hG := hG.trans hg; have c0 := hL.cell))
    all_goals first
      | (go_end0; exact ⟨_, rfl, by omega, hL, hG⟩)
      | (go_roundg (l.length - (p + 1)); (case rel => exact ⟨_, Nat.le_refl _, hL, hG, by omega⟩); (case measure => (have := hL.np; omega)))
      | (go_roundg (l.length - (p2)); (case rel => exact ⟨_, Nat.le_refl _, hL, hG, by omega⟩); (case measure => (have := hL.np; omega)))
end
end Go.Proofs.YtngmdgefecebmaaDoor
