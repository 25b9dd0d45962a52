/- The lexer of CSS, step by step (part B; printed by gen_css.py). Conditions: as for its first steps. -/
import Derived.Test.YtngmdgefecebmaaDoorLx3
import Derived.Deep.DeepCutAuto
namespace Go.Proofs.YtngmdgefecebmaaDoor
open Go.RowKit
set_option linter.unusedVariables false
set_option linter.unusedSimpArgs false
section
variable {w w' : World} {gl g c pos start : Nat} {A : Option Addr} {l : List UInt8}
theorem byte45 (h : Lx w gl g A c l pos start) :
    Calls Tryd.prog 39 #[.pointer (some ⟨gl, 0, none⟩), .int .u8 45] w (Eats gl g A c l pos start w) := byte_eats 45 h (by decide)
theorem byte63 (h : Lx w gl g A c l pos start) :
    Calls Tryd.prog 39 #[.pointer (some ⟨gl, 0, none⟩), .int .u8 63] w (Eats gl g A c l pos start w) := byte_eats 63 h (by decide)
theorem byte37 (h : Lx w gl g A c l pos start) :
    Calls Tryd.prog 39 #[.pointer (some ⟨gl, 0, none⟩), .int .u8 37] w (Eats gl g A c l pos start w) := byte_eats 37 h (by decide)
theorem byte41 (h : Lx w gl g A c l pos start) :
    Calls Tryd.prog 39 #[.pointer (some ⟨gl, 0, none⟩), .int .u8 41] w (Eats gl g A c l pos start w) := byte_eats 41 h (by decide)
/-- A step that may take some bytes, whatever it tells. -/
def Goes (gl g : Nat) (A : Option Addr) (c : Nat) (l : List UInt8) (pos start : Nat) (w : World) (e : Ending) (w' : World) : Prop :=
  ∃ (r : Bool) (p : Nat), e = .returned (.bool r) ∧ pos ≤ p ∧ Lx w' gl g A c l p start ∧ w.grownBy w' (some g)
/-- A step that tells a kind of token, 0 for none. -/
def Kind (gl g : Nat) (A : Option Addr) (c : Nat) (l : List UInt8) (pos start : Nat) (w : World) (e : Ending) (w' : World) : Prop :=
  ∃ (r : Int) (p : Nat), e = .returned (.int .u32 r) ∧ (0 ≤ r ∧ r ≤ 40) ∧ Lx w' gl g A c l p start ∧ w.grownBy w' (some g) ∧ (r = 0 → p = pos) ∧ (r ≠ 0 → pos < p)
set_option maxHeartbeats 2000000 in
theorem bracket_kind (h : Lx w gl g A c l pos start) :
    Calls Tryd.prog 20 #[.pointer (some ⟨gl, 0, none⟩)] w (Kind gl g A c l pos start w) := by
  have c0 := h.cell
  have np := h.np
  have hL := h
  have hG := World.grownBy.refl w (some g)
  clear h
  go_enter Tryd.func20, Tryd.ntmps20
  go_wp2_with (first
    | (go_at_call 16; (with_reducible refine (lpeek0 hL (by have := hL.np; first | omega | ((try unfold Seen at *); (try simp only [beq_iff_eq, beq_eq_false_iff_ne, bne_iff_ne, bne_eq_false_iff_eq, ne_eq, Bool.or_eq_true] at *); omega))).mono ?_); rintro e w2 ⟨x0, rfl, hs0, rfl⟩)
    | (go_at_call 17; (with_reducible refine (lmove1 hL (by have := hL.np; first | omega | ((try unfold Seen at *); (try simp only [beq_iff_eq, beq_eq_false_iff_ne, bne_iff_ne, bne_eq_false_iff_eq, ne_eq, Bool.or_eq_true] at *); omega))).mono ?_); rintro e w2 ⟨rfl, hL, hg⟩; replace hG := hG.trans hg; have c0 := hL.cell))
  all_goals go_ret
  all_goals exact ⟨_, _, rfl, ⟨by first | decide | omega, by first | decide | omega⟩, hL, hG, fun h => by first | rfl | omega | (exact absurd h (by decide)), fun h => by first | omega | (exact absurd rfl h)⟩
set_option maxHeartbeats 2000000 in
theorem match_kind (h : Lx w gl g A c l pos start) (hlt : pos < l.length) :
    Calls Tryd.prog 28 #[.pointer (some ⟨gl, 0, none⟩)] w (Kind gl g A c l pos start w) := by
  have c0 := h.cell
  have np := h.np
  have hL := h
  have hG := World.grownBy.refl w (some g)
  clear h
  go_enter Tryd.func28, Tryd.ntmps28
  go_wp2_with (first
    | (go_at_call 16; (with_reducible refine (lpeek0 hL (by have := hL.np; first | omega | ((try unfold Seen at *); (try simp only [beq_iff_eq, beq_eq_false_iff_ne, bne_iff_ne, bne_eq_false_iff_eq, ne_eq, Bool.or_eq_true] at *); omega))).mono ?_); rintro e w2 ⟨x0, rfl, hs0, rfl⟩)
    | (go_at_call 16; (with_reducible refine (lpeek1 hL (by have := hL.np; first | omega | ((try unfold Seen at *); (try simp only [beq_iff_eq, beq_eq_false_iff_ne, bne_iff_ne, bne_eq_false_iff_eq, ne_eq, Bool.or_eq_true] at *); omega))).mono ?_); rintro e w2 ⟨x1, rfl, hs1, rfl⟩)
    | (go_at_call 17; (with_reducible refine (lmove2 hL (by have := hL.np; first | omega | ((try unfold Seen at *); (try simp only [beq_iff_eq, beq_eq_false_iff_ne, bne_iff_ne, bne_eq_false_iff_eq, ne_eq, Bool.or_eq_true] at *); omega))).mono ?_); rintro e w2 ⟨rfl, hL, hg⟩; replace hG := hG.trans hg; have c0 := hL.cell))
  all_goals go_ret
  all_goals exact ⟨_, _, rfl, ⟨by first | decide | omega, by first | decide | omega⟩, hL, hG, fun h => by first | rfl | omega | (exact absurd h (by decide)), fun h => by first | omega | (exact absurd rfl h)⟩
end
end Go.Proofs.YtngmdgefecebmaaDoor
