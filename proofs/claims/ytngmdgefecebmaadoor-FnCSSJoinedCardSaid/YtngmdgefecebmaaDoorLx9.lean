/- The lexer of CSS, step by step (part 9; printed by gen_css.py). Conditions: as for its first steps. -/
import Derived.Test.YtngmdgefecebmaaDoorLx8
import Derived.Deep.DeepCutAuto
namespace Go.Proofs.YtngmdgefecebmaaDoor
open Go.RowKit
set_option linter.unusedVariables false
set_option linter.unusedSimpArgs false
section
variable {w w' : World} {gl g c pos start : Nat} {A : Option Addr} {l : List UInt8}
/-- The same in two ways. -/
def Kind2 (gl g : Nat) (A : Option Addr) (c : Nat) (l : List UInt8) (pos start : Nat) (w : World) (e : Ending) (w' : World) : Prop :=
  (e = .returned (.int .u32 0) ∧ Lx w' gl g A c l pos start ∧ w.grownBy w' (some g)) ∨ (∃ (r : Int) (p : Nat), 1 ≤ r ∧ r ≤ 40 ∧ (r != 0) = true ∧ pos < p ∧ e = .returned (.int .u32 r) ∧ Lx w' gl g A c l p start ∧ w.grownBy w' (some g))
theorem twoK {f : FuncId} {args : Array Value} (h : Calls Tryd.prog f args w (Kind gl g A c l pos start w)) : Calls Tryd.prog f args w (Kind2 gl g A c l pos start w) :=
  h.mono fun e w' ⟨r, p, he, hr, hL, hg, h1, h2⟩ => by
    by_cases h0 : r = 0
    · obtain rfl := h1 h0
      subst h0
      exact .inl ⟨he, hL, hg⟩
    · exact .inr ⟨r, p, by omega, hr.2, by rw [bne_iff_ne]; exact h0, h2 h0, he, hL, hg⟩
theorem lshift (h : Lx w gl g A c l pos start) :
    Calls Tryd.prog 19 #[.pointer (some ⟨g, 0, none⟩)] w fun e w' => ∃ A' c', e = .returned (.slice A' (pos - start) c') ∧ BS w' A' (sel l start pos) ∧ Lx w' gl g A c l pos pos ∧ w.grownBy w' (some g) := by
  have hl := h.hl
  refine (shift_any g c pos start A l w h.inp (by omega) h.np h.sp).mono ?_
  rintro e w1 ⟨⟨A', c', rfl, hb⟩, hi, hg⟩
  exact ⟨A', c', rfl, hb, h.step hi hg h.np (Nat.le_refl _), hg⟩
/-- What the next token is: none at the end, or a kind and the bytes that it takes. -/
def NextRet (gl g : Nat) (A : Option Addr) (c : Nat) (l : List UInt8) (pos : Nat) (w : World) (e : Ending) (w' : World) : Prop :=
  (pos = l.length ∧ e = .returned (.tuple #[.int .u32 0, .slice none 0 0]) ∧ Lx w' gl g A c l pos pos ∧ w.grownBy w' (some g)) ∨
  (∃ (r : Int) (p : Nat) (A' : Option Addr) (n c' : Nat), 1 ≤ r ∧ r ≤ 40 ∧ pos < p ∧ p - pos = n ∧ e = .returned (.tuple #[.int .u32 r, .slice A' n c']) ∧ BS w' A' (sel l pos p) ∧ Lx w' gl g A c l p p ∧ w.grownBy w' (some g))
set_option maxRecDepth 100000 in
set_option maxHeartbeats 16000000 in
theorem next_any (h : Lx w gl g A c l pos pos) :
    Calls Tryd.prog 10 #[.pointer (some ⟨gl, 0, none⟩)] w (NextRet gl g A c l pos w) := by
  have c0 := h.cell
  have np := h.np
  have sp := h.sp
  have hL := h
  have hG := World.grownBy.refl w (some g)
  clear h
  go_enter Tryd.func10, Tryd.ntmps10
  go_wp2_with (first
    | (go_at_call 16; (with_reducible refine (lpeek0 hL (by have := hL.np; first | omega | ((try unfold Seen at *); (try simp only [beq_iff_eq, beq_eq_false_iff_ne, bne_iff_ne, bne_eq_false_iff_eq, ne_eq, Bool.or_eq_true] at *); omega))).mono ?_); rintro e w2 ⟨x0, rfl, hs0, rfl⟩)
    | (go_at_call 17; (with_reducible refine (lmove1 hL (by have := hL.np; first | omega | ((try unfold Seen at *); (try simp only [beq_iff_eq, beq_eq_false_iff_ne, bne_iff_ne, bne_eq_false_iff_eq, ne_eq, Bool.or_eq_true] at *); omega))).mono ?_); rintro e w2 ⟨rfl, hL, hg⟩; replace hG := hG.trans hg; have c0 := hL.cell)
    | (go_at_call 18; (with_reducible refine ((two (whitespace_eats hL)).mono ?_)); rintro e w2 (⟨rfl, hL, hg⟩ | ⟨p2, ht2, rfl, hL, hg⟩); all_goals (replace hG := hG.trans hg; have c0 := hL.cell; have hle := hL.np))
    | (go_at_call 33; (with_reducible refine (lerr_end hL (by have := hL.np; first | omega | ((try unfold Seen at *); (try simp only [beq_iff_eq, beq_eq_false_iff_ne, bne_iff_ne, bne_eq_false_iff_eq, ne_eq, Bool.or_eq_true] at *); omega))).mono ?_); rintro e w2 ⟨⟨T, a, rfl⟩, n2, rfl⟩; replace hG := hG.trans (grown_drewN _ n2 (some g)); replace hL := hL.drewN n2; have c0 := hL.cell)
    | (go_at_call 20; (with_reducible refine ((twoK (bracket_kind hL)).mono ?_)); rintro e w2 (⟨rfl, hL, hg⟩ | ⟨r2, p2, hr2, hr3, hb2, ht2, rfl, hL, hg⟩); all_goals (replace hG := hG.trans hg; have c0 := hL.cell))
    | (go_at_call 22; (with_reducible refine ((twoK (string_eats hL (by have := hL.np; first | omega | ((try unfold Seen at *); (try simp only [beq_iff_eq, beq_eq_false_iff_ne, bne_iff_ne, bne_eq_false_iff_eq, ne_eq, Bool.or_eq_true] at *); omega)))).mono ?_)); rintro e w2 (⟨rfl, hL, hg⟩ | ⟨r2, p2, hr2, hr3, hb2, ht2, rfl, hL, hg⟩); all_goals (replace hG := hG.trans hg; have c0 := hL.cell))
    | (go_at_call 23; (with_reducible refine ((twoK (numeric_eats hL)).mono ?_)); rintro e w2 (⟨rfl, hL, hg⟩ | ⟨r2, p2, hr2, hr3, hb2, ht2, rfl, hL, hg⟩); all_goals (replace hG := hG.trans hg; have c0 := hL.cell))
    | (go_at_call 26; (with_reducible refine ((twoK (identlike_eats hL)).mono ?_)); rintro e w2 (⟨rfl, hL, hg⟩ | ⟨r2, p2, hr2, hr3, hb2, ht2, rfl, hL, hg⟩); all_goals (replace hG := hG.trans hg; have c0 := hL.cell))
    | (go_at_call 28; (with_reducible refine ((twoK (match_kind hL (by have := hL.np; first | omega | ((try unfold Seen at *); (try simp only [beq_iff_eq, beq_eq_false_iff_ne, bne_iff_ne, bne_eq_false_iff_eq, ne_eq, Bool.or_eq_true] at *); omega)))).mono ?_)); rintro e w2 (⟨rfl, hL, hg⟩ | ⟨r2, p2, hr2, hr3, hb2, ht2, rfl, hL, hg⟩); all_goals (replace hG := hG.trans hg; have c0 := hL.cell))
    | (go_at_call 21; (with_reducible refine ((two (hashtoken_eats hL (by have := hL.np; first | omega | ((try unfold Seen at *); (try simp only [beq_iff_eq, beq_eq_false_iff_ne, bne_iff_ne, bne_eq_false_iff_eq, ne_eq, Bool.or_eq_true] at *); omega)))).mono ?_)); rintro e w2 (⟨rfl, hL, hg⟩ | ⟨p2, ht2, rfl, hL, hg⟩); all_goals (replace hG := hG.trans hg; have c0 := hL.cell))
    | (go_at_call 24; (with_reducible refine ((two (cdctoken_eats hL)).mono ?_)); rintro e w2 (⟨rfl, hL, hg⟩ | ⟨p2, ht2, rfl, hL, hg⟩); all_goals (replace hG := hG.trans hg; have c0 := hL.cell))
    | (go_at_call 25; (with_reducible refine ((two (customvariabletoken_eats hL (by have := hL.np; first | omega | ((try unfold Seen at *); (try simp only [beq_iff_eq, beq_eq_false_iff_ne, bne_iff_ne, bne_eq_false_iff_eq, ne_eq, Bool.or_eq_true] at *); omega)))).mono ?_)); rintro e w2 (⟨rfl, hL, hg⟩ | ⟨p2, ht2, rfl, hL, hg⟩); all_goals (replace hG := hG.trans hg; have c0 := hL.cell))
    | (go_at_call 27; (with_reducible refine ((two (atkeywordtoken_eats hL (by have := hL.np; first | omega | ((try unfold Seen at *); (try simp only [beq_iff_eq, beq_eq_false_iff_ne, bne_iff_ne, bne_eq_false_iff_eq, ne_eq, Bool.or_eq_true] at *); omega)))).mono ?_)); rintro e w2 (⟨rfl, hL, hg⟩ | ⟨p2, ht2, rfl, hL, hg⟩); all_goals (replace hG := hG.trans hg; have c0 := hL.cell))
    | (go_at_call 29; (with_reducible refine ((two (comment_eats hL)).mono ?_)); rintro e w2 (⟨rfl, hL, hg⟩ | ⟨p2, ht2, rfl, hL, hg⟩); all_goals (replace hG := hG.trans hg; have c0 := hL.cell))
    | (go_at_call 30; (with_reducible refine ((two (cdotoken_eats hL)).mono ?_)); rintro e w2 (⟨rfl, hL, hg⟩ | ⟨p2, ht2, rfl, hL, hg⟩); all_goals (replace hG := hG.trans hg; have c0 := hL.cell))
    | (go_at_call 31; (with_reducible refine ((two (unicoderangetoken_eats hL)).mono ?_)); rintro e w2 (⟨rfl, hL, hg⟩ | ⟨p2, ht2, rfl, hL, hg⟩); all_goals (replace hG := hG.trans hg; have c0 := hL.cell))
    | (go_at_call 32; (with_reducible refine ((two (columntoken_eats hL)).mono ?_)); rintro e w2 (⟨rfl, hL, hg⟩ | ⟨p2, ht2, rfl, hL, hg⟩); all_goals (replace hG := hG.trans hg; have c0 := hL.cell))
    | (go_at_call 19; (with_reducible refine (lshift hL).mono ?_); rintro e w2 ⟨A2, c2, rfl, hbs, hL, hg⟩; replace hG := hG.trans hg; have c0 := hL.cell))
  all_goals first
    | (go_ret2; first | (refine .inr ⟨_, _, _, _, _, ?_, ?_, ?_, ?_, rfl, hbs, hL, hG⟩; all_goals first | omega | decide) | exact .inl ⟨(by have := hL.np; first | omega | ((try unfold Seen at *); (try simp only [beq_iff_eq, beq_eq_false_iff_ne, bne_iff_ne, bne_eq_false_iff_eq, ne_eq, Bool.or_eq_true] at *); omega)), rfl, hL, hG⟩)
    | skip
  all_goals
    go_loopg [] (l.length) (fun gk wr => ∃ p : Nat, l.length - p ≤ gk ∧ Lx wr gl g A c l p pos ∧ w.grownBy wr (some g) ∧ pos < p)
    case atStart => exact ⟨_, by omega, hL, hG, by omega⟩
    case round =>
      obtain ⟨p, hgk, hL, hG, hp⟩ := hrel
      have c0 := hL.cell
      have hlp := hL.np
      clear hs0
      go_wp2_with (first
        | (go_at_call 16; (with_reducible refine (lpeek0 hL (by have := hL.np; first | omega | ((try unfold Seen at *); (try simp only [beq_iff_eq, beq_eq_false_iff_ne, bne_iff_ne, bne_eq_false_iff_eq, ne_eq, Bool.or_eq_true] at *); omega))).mono ?_); rintro e w2 ⟨x0, rfl, hs0, rfl⟩)
        | (go_at_call 17; (with_reducible refine (lmove1 hL (by have := hL.np; first | omega | ((try unfold Seen at *); (try simp only [beq_iff_eq, beq_eq_false_iff_ne, bne_iff_ne, bne_eq_false_iff_eq, ne_eq, Bool.or_eq_true] at *); omega))).mono ?_); rintro e w2 ⟨rfl, hL, hg⟩; replace hG := hG.trans hg; have c0 := hL.cell)
        | (go_at_call 18; (with_reducible refine ((two (whitespace_eats hL)).mono ?_)); rintro e w2 (⟨rfl, hL, hg⟩ | ⟨p2, ht2, rfl, hL, hg⟩); all_goals (replace hG := hG.trans hg; have c0 := hL.cell; have hle := hL.np))
        | (go_at_call 33; (with_reducible refine (lerr_end hL (by have := hL.np; first | omega | ((try unfold Seen at *); (try simp only [beq_iff_eq, beq_eq_false_iff_ne, bne_iff_ne, bne_eq_false_iff_eq, ne_eq, Bool.or_eq_true] at *); omega))).mono ?_); rintro e w2 ⟨⟨T, a, rfl⟩, n2, rfl⟩; replace hG := hG.trans (grown_drewN _ n2 (some g)); replace hL := hL.drewN n2; have c0 := hL.cell)
        | (go_at_call 20; (with_reducible refine ((twoK (bracket_kind hL)).mono ?_)); rintro e w2 (⟨rfl, hL, hg⟩ | ⟨r2, p2, hr2, hr3, hb2, ht2, rfl, hL, hg⟩); all_goals (replace hG := hG.trans hg; have c0 := hL.cell))
        | (go_at_call 22; (with_reducible refine ((twoK (string_eats hL (by have := hL.np; first | omega | ((try unfold Seen at *); (try simp only [beq_iff_eq, beq_eq_false_iff_ne, bne_iff_ne, bne_eq_false_iff_eq, ne_eq, Bool.or_eq_true] at *); omega)))).mono ?_)); rintro e w2 (⟨rfl, hL, hg⟩ | ⟨r2, p2, hr2, hr3, hb2, ht2, rfl, hL, hg⟩); all_goals (replace hG := hG.trans hg; have c0 := hL.cell))
        | (go_at_call 23; (with_reducible refine ((twoK (numeric_eats hL)).mono ?_)); rintro e w2 (⟨rfl, hL, hg⟩ | ⟨r2, p2, hr2, hr3, hb2, ht2, rfl, hL, hg⟩); all_goals (replace hG := hG.trans hg; have c0 := hL.cell))
        | (go_at_call 26; (with_reducible refine ((twoK (identlike_eats hL)).mono ?_)); rintro e w2 (⟨rfl, hL, hg⟩ | ⟨r2, p2, hr2, hr3, hb2, ht2, rfl, hL, hg⟩); all_goals (replace hG := hG.trans hg; have c0 := hL.cell))
        | (go_at_call 28; (with_reducible refine ((twoK (match_kind hL (by have := hL.np; first | omega | ((try unfold Seen at *); (try simp only [beq_iff_eq, beq_eq_false_iff_ne, bne_iff_ne, bne_eq_false_iff_eq, ne_eq, Bool.or_eq_true] at *); omega)))).mono ?_)); rintro e w2 (⟨rfl, hL, hg⟩ | ⟨r2, p2, hr2, hr3, hb2, ht2, rfl, hL, hg⟩); all_goals (replace hG := hG.trans hg; have c0 := hL.cell))
        | (go_at_call 21; (with_reducible refine ((two (hashtoken_eats hL (by have := hL.np; first | omega | ((try unfold Seen at *); (try simp only [beq_iff_eq, beq_eq_false_iff_ne, bne_iff_ne, bne_eq_false_iff_eq, ne_eq, Bool.or_eq_true] at *); omega)))).mono ?_)); rintro e w2 (⟨rfl, hL, hg⟩ | ⟨p2, ht2, rfl, hL, hg⟩); all_goals (replace hG := hG.trans hg; have c0 := hL.cell))
        | (go_at_call 24; (with_reducible refine ((two (cdctoken_eats hL)).mono ?_)); rintro e w2 (⟨rfl, hL, hg⟩ | ⟨p2, ht2, rfl, hL, hg⟩); all_goals (replace hG := hG.trans hg; have c0 := hL.cell))
        | (go_at_call 25; (with_reducible refine ((two (customvariabletoken_eats hL (by have := hL.np; first | omega | ((try unfold Seen at *); (try simp only [beq_iff_eq, beq_eq_false_iff_ne, bne_iff_ne, bne_eq_false_iff_eq, ne_eq, Bool.or_eq_true] at *); omega)))).mono ?_)); rintro e w2 (⟨rfl, hL, hg⟩ | ⟨p2, ht2, rfl, hL, hg⟩); all_goals (replace hG := hG.trans hg; have c0 := hL.cell))
        | (go_at_call 27; (with_reducible refine ((two (atkeywordtoken_eats hL (by have := hL.np; first | omega | ((try unfold Seen at *); (try simp only [beq_iff_eq, beq_eq_false_iff_ne, bne_iff_ne, bne_eq_false_iff_eq, ne_eq, Bool.or_eq_true] at *); omega)))).mono ?_)); rintro e w2 (⟨rfl, hL, hg⟩ | ⟨p2, ht2, rfl, hL, hg⟩); all_goals (replace hG := hG.trans hg; have c0 := hL.cell))
        | (go_at_call 29; (with_reducible refine ((two (comment_eats hL)).mono ?_)); rintro e w2 (⟨rfl, hL, hg⟩ | ⟨p2, ht2, rfl, hL, hg⟩); all_goals (replace hG := hG.trans hg; have c0 := hL.cell))
        | (go_at_call 30; (with_reducible refine ((two (cdotoken_eats hL)).mono ?_)); rintro e w2 (⟨rfl, hL, hg⟩ | ⟨p2, ht2, rfl, hL, hg⟩); all_goals (replace hG := hG.trans hg; have c0 := hL.cell))
        | (go_at_call 31; (with_reducible refine ((two (unicoderangetoken_eats hL)).mono ?_)); rintro e w2 (⟨rfl, hL, hg⟩ | ⟨p2, ht2, rfl, hL, hg⟩); all_goals (replace hG := hG.trans hg; have c0 := hL.cell))
        | (go_at_call 32; (with_reducible refine ((two (columntoken_eats hL)).mono ?_)); rintro e w2 (⟨rfl, hL, hg⟩ | ⟨p2, ht2, rfl, hL, hg⟩); all_goals (replace hG := hG.trans hg; have c0 := hL.cell))
        | (go_at_call 19; (with_reducible refine (lshift hL).mono ?_); rintro e w2 ⟨A2, c2, rfl, hbs, hL, hg⟩; replace hG := hG.trans hg; have c0 := hL.cell))
      all_goals first
        | (go_ret2; first | (refine .inr ⟨_, _, _, _, _, ?_, ?_, ?_, ?_, rfl, hbs, hL, hG⟩; all_goals first | omega | decide) | exact .inl ⟨(by have := hL.np; first | omega | ((try unfold Seen at *); (try simp only [beq_iff_eq, beq_eq_false_iff_ne, bne_iff_ne, bne_eq_false_iff_eq, ne_eq, Bool.or_eq_true] at *); omega)), rfl, hL, hG⟩)
        | (go_roundg (l.length - p2); (case rel => exact ⟨_, Nat.le_refl _, hL, hG, by omega⟩); (case measure => (have := hL.np; omega)))
end
end Go.Proofs.YtngmdgefecebmaaDoor
