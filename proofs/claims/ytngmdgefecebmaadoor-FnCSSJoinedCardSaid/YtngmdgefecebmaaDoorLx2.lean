/- The lexer of CSS, step by step (part 2; printed by gen_css.py). Conditions: as for its first steps. -/
import Derived.Test.YtngmdgefecebmaaDoorLxR
namespace Go.Proofs.YtngmdgefecebmaaDoor
open Go.RowKit
set_option linter.unusedVariables false
set_option linter.unusedSimpArgs false
section
variable {w w' : World} {gl g c pos start : Nat} {A : Option Addr} {l : List UInt8}
theorem lrune {x : UInt8} (h : Lx w gl g A c l pos start) (hs : Seen l (pos + 0) x) (h192 : (192 : Int) ≤ (x.toNat : Int)) :
    Calls Tryd.prog 48 #[.pointer (some ⟨g, 0, none⟩), .int .i64 0] w fun e w' => ∃ n : Nat, 1 ≤ n ∧ pos + n ≤ l.length ∧ RuneRet n w e w' := by
  rcases hs with hs | hs
  · exact rune_any x h hs.1 h192
  · omega
/-- The same in two ways. -/
def Eat2 (gl g : Nat) (A : Option Addr) (c : Nat) (l : List UInt8) (pos start : Nat) (w : World) (e : Ending) (w' : World) : Prop :=
  (e = .returned (.bool false) ∧ Lx w' gl g A c l pos start ∧ w.grownBy w' (some g)) ∨ (∃ p, pos < p ∧ e = .returned (.bool true) ∧ Lx w' gl g A c l p start ∧ w.grownBy w' (some g))
theorem two {f : FuncId} {args : Array Value} (h : Calls Tryd.prog f args w (Eats gl g A c l pos start w)) : Calls Tryd.prog f args w (Eat2 gl g A c l pos start w) :=
  h.mono fun e w' ⟨r, p, he, hL, hg, h1, h2⟩ => by
    cases r with
    | false => obtain rfl := h1 rfl; exact .inl ⟨he, hL, hg⟩
    | true => exact .inr ⟨p, h2 rfl, he, hL, hg⟩
set_option maxRecDepth 100000 in
set_option maxHeartbeats 4000000 in
theorem escape_eats (h : Lx w gl g A c l pos start) :
    Calls Tryd.prog 35 #[.pointer (some ⟨gl, 0, none⟩)] w (Eats gl g A c l pos start w) := by
  have c0 := h.cell
  have np := h.np
  have sp := h.sp
  have hL := h
  have hG := World.grownBy.refl w (some g)
  clear h
  go_enter Tryd.func35, Tryd.ntmps35
  go_wp2_with (first
    | (go_at_call 16; (with_reducible refine (lpeek0 hL (by have := hL.np; first | omega | ((try unfold Seen at *); (try simp only [beq_iff_eq, beq_eq_false_iff_ne, bne_iff_ne, bne_eq_false_iff_eq, ne_eq, Bool.or_eq_true] at *); omega))).mono ?_); rintro e w2 ⟨x0, rfl, hs0, rfl⟩)
    | (go_at_call 34; (with_reducible refine (lpos hL).mono ?_); rintro e w2 ⟨rfl, n2, rfl⟩; replace hG := hG.trans (grown_drewN _ n2 (some g)); replace hL := hL.drewN n2; have c0 := hL.cell)
    | (go_at_call 17; (with_reducible refine (lmove1 hL (by have := hL.np; first | omega | ((try unfold Seen at *); (try simp only [beq_iff_eq, beq_eq_false_iff_ne, bne_iff_ne, bne_eq_false_iff_eq, ne_eq, Bool.or_eq_true] at *); omega))).mono ?_); rintro e w2 ⟨rfl, hL, hg⟩; replace hG := hG.trans hg; have c0 := hL.cell)
    | (go_at_call 37; (with_reducible refine ((two (newline_eats hL)).mono ?_)); rintro e w2 (⟨rfl, hL, hg⟩ | ⟨p2, ht2, rfl, hL, hg⟩); all_goals (replace hG := hG.trans hg; have c0 := hL.cell; have hle := hL.np))
    | (go_at_call 46; (with_reducible refine ((two (hexdigit_eats hL)).mono ?_)); rintro e w2 (⟨rfl, hL, hg⟩ | ⟨p2, ht2, rfl, hL, hg⟩); all_goals (replace hG := hG.trans hg; have c0 := hL.cell; have hle := hL.np))
    | (go_at_call 36; (with_reducible refine (lrewind pos _ hL (by omega) (by omega) (by omega)).mono ?_); rintro e w2 ⟨rfl, hL, hg⟩; replace hG := hG.trans hg; have c0 := hL.cell)
    | (go_at_call 48; (with_reducible refine (lrune hL hs0 (by omega)).mono ?_); rintro e w2 ⟨nr, hn1, hn2, ⟨rr, rfl⟩, n2, rfl⟩; replace hG := hG.trans (grown_drewN _ n2 (some g)); replace hL := hL.drewN n2; have c0 := hL.cell)
    | (go_at_call 33; (with_reducible refine (lerr_end hL (by have := hL.np; first | omega | ((try unfold Seen at *); (try simp only [beq_iff_eq, beq_eq_false_iff_ne, bne_iff_ne, bne_eq_false_iff_eq, ne_eq, Bool.or_eq_true] at *); omega))).mono ?_); rintro e w2 ⟨⟨T, a, rfl⟩, n2, rfl⟩; replace hG := hG.trans (grown_drewN _ n2 (some g)); replace hL := hL.drewN n2; have c0 := hL.cell))
  all_goals try (go_ret; exact ⟨_, _, rfl, hL, hG, fun h => by first | (cases h; done) | rfl | omega, fun h => by first | (cases h; done) | omega⟩)
  · go_at_call 17
    with_reducible refine (lmove nr hL (by omega)).mono ?_
    rintro e w2 ⟨rfl, hL, hg⟩
    replace hG := hG.trans hg
    have c0 := hL.cell
    go_wp2
    go_ret
    exact ⟨_, _, rfl, hL, hG, fun h => by first | (cases h; done) | rfl | omega, fun h => by first | (cases h; done) | omega⟩
  · go_loopw [4] (fun v wr => ∃ (k p : Nat), v = .int .i64 (k : Int) ∧ k ≤ 6 ∧ Lx wr gl g A c l p start ∧ w.grownBy wr (some g) ∧ pos < p) (fun v _ => 6 - (intOf v).toNat)
    case atStart => exact ⟨1, _, rfl, by omega, hL, hG, by omega⟩
    case round =>
      obtain ⟨k, p, rfl, hk, hL, hG, hp⟩ := hrel
      have c0 := hL.cell
      go_wp2_with (first
        | (go_at_call 46; (with_reducible refine ((two (hexdigit_eats hL)).mono ?_)); rintro e w2 (⟨rfl, hL, hg⟩ | ⟨p2, ht2, rfl, hL, hg⟩); all_goals (replace hG := hG.trans hg; have c0 := hL.cell; have hle := hL.np))
        | (go_at_call 18; (with_reducible refine ((two (whitespace_eats hL)).mono ?_)); rintro e w2 (⟨rfl, hL, hg⟩ | ⟨p2, ht2, rfl, hL, hg⟩); all_goals (replace hG := hG.trans hg; have c0 := hL.cell; have hle := hL.np)))
      all_goals try (go_ret; exact ⟨_, _, rfl, hL, hG, fun h => by first | (cases h; done) | rfl | omega, fun h => by first | (cases h; done) | omega⟩)
      go_roundw
      case rel => exact ⟨k + 1, _, by go_num, by omega, hL, hG, by omega⟩
      case measure => simp [intOf]; omega
end
end Go.Proofs.YtngmdgefecebmaaDoor
