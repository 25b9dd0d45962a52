/- The lexer of CSS, step by step (part 1; printed by gen_css.py). Conditions: as for its first steps. -/
import Derived.Test.YtngmdgefecebmaaDoorLx
namespace Go.Proofs.YtngmdgefecebmaaDoor
open Go.RowKit
set_option linter.unusedVariables false
set_option linter.unusedSimpArgs false
section
variable {w w' : World} {gl g c pos start : Nat} {A : Option Addr} {l : List UInt8}
theorem lpeek0 (h : Lx w gl g A c l pos start) (hk : pos + 0 ≤ l.length) :
    Calls Tryd.prog 16 #[.pointer (some ⟨g, 0, none⟩), .int .i64 0] w fun e w' => ∃ x : UInt8, e = .returned (.int .u8 (x.toNat : Int)) ∧ Seen l (pos + 0) x ∧ w = w' := lpeek 0 h hk
theorem lpeek1 (h : Lx w gl g A c l pos start) (hk : pos + 1 ≤ l.length) :
    Calls Tryd.prog 16 #[.pointer (some ⟨g, 0, none⟩), .int .i64 1] w fun e w' => ∃ x : UInt8, e = .returned (.int .u8 (x.toNat : Int)) ∧ Seen l (pos + 1) x ∧ w = w' := lpeek 1 h hk
theorem lpeek2 (h : Lx w gl g A c l pos start) (hk : pos + 2 ≤ l.length) :
    Calls Tryd.prog 16 #[.pointer (some ⟨g, 0, none⟩), .int .i64 2] w fun e w' => ∃ x : UInt8, e = .returned (.int .u8 (x.toNat : Int)) ∧ Seen l (pos + 2) x ∧ w = w' := lpeek 2 h hk
theorem lpeek3 (h : Lx w gl g A c l pos start) (hk : pos + 3 ≤ l.length) :
    Calls Tryd.prog 16 #[.pointer (some ⟨g, 0, none⟩), .int .i64 3] w fun e w' => ∃ x : UInt8, e = .returned (.int .u8 (x.toNat : Int)) ∧ Seen l (pos + 3) x ∧ w = w' := lpeek 3 h hk
theorem lmove1 (h : Lx w gl g A c l pos start) (hk : pos + 1 ≤ l.length) :
    Calls Tryd.prog 17 #[.pointer (some ⟨g, 0, none⟩), .int .i64 1] w (LxRet unit gl g A c l (pos + 1) start w) := lmove 1 h hk
theorem lmove2 (h : Lx w gl g A c l pos start) (hk : pos + 2 ≤ l.length) :
    Calls Tryd.prog 17 #[.pointer (some ⟨g, 0, none⟩), .int .i64 2] w (LxRet unit gl g A c l (pos + 2) start w) := lmove 2 h hk
theorem lmove3 (h : Lx w gl g A c l pos start) (hk : pos + 3 ≤ l.length) :
    Calls Tryd.prog 17 #[.pointer (some ⟨g, 0, none⟩), .int .i64 3] w (LxRet unit gl g A c l (pos + 3) start w) := lmove 3 h hk
theorem lmove4 (h : Lx w gl g A c l pos start) (hk : pos + 4 ≤ l.length) :
    Calls Tryd.prog 17 #[.pointer (some ⟨g, 0, none⟩), .int .i64 4] w (LxRet unit gl g A c l (pos + 4) start w) := lmove 4 h hk
/-- A step that tells a kind of token, 0 for none. -/
def Kinds (gl g : Nat) (A : Option Addr) (c : Nat) (l : List UInt8) (pos start : Nat) (w : World) (e : Ending) (w' : World) : Prop :=
  ∃ (r : Int) (p : Nat), e = .returned (.int .u32 r) ∧ Lx w' gl g A c l p start ∧ w.grownBy w' (some g) ∧ (r = 0 → p = pos) ∧ (r ≠ 0 → pos < p)
set_option maxHeartbeats 2000000 in
theorem digit_eats (h : Lx w gl g A c l pos start) :
    Calls Tryd.prog 49 #[.pointer (some ⟨gl, 0, none⟩)] w (Eats gl g A c l pos start w) := by
  have c0 := h.cell
  have np := h.np
  have hL := h
  have hG := World.grownBy.refl w (some g)
  clear h
  go_enter Tryd.func49, Tryd.ntmps49
  go_wp2_with (first
    | (go_at_call 16; (with_reducible refine (lpeek0 hL (by have := hL.np; first | omega | ((try unfold Seen at *); (try simp only [beq_iff_eq, beq_eq_false_iff_ne, ne_eq, Bool.or_eq_true] at *); omega))).mono ?_); rintro e w2 ⟨x0, rfl, hs0, rfl⟩)
    | (go_at_call 17; (with_reducible refine (lmove1 hL (by have := hL.np; first | omega | ((try unfold Seen at *); (try simp only [beq_iff_eq, beq_eq_false_iff_ne, ne_eq, Bool.or_eq_true] at *); omega))).mono ?_); rintro e w2 ⟨rfl, hL, hg⟩; replace hG := hG.trans hg; have c0 := hL.cell))
  all_goals go_ret
  all_goals exact ⟨_, _, rfl, hL, hG, fun h => by first | (cases h; done) | rfl | omega, fun h => by first | (cases h; done) | omega⟩
set_option maxHeartbeats 2000000 in
theorem hexdigit_eats (h : Lx w gl g A c l pos start) :
    Calls Tryd.prog 46 #[.pointer (some ⟨gl, 0, none⟩)] w (Eats gl g A c l pos start w) := by
  have c0 := h.cell
  have np := h.np
  have hL := h
  have hG := World.grownBy.refl w (some g)
  clear h
  go_enter Tryd.func46, Tryd.ntmps46
  go_wp2_with (first
    | (go_at_call 16; (with_reducible refine (lpeek0 hL (by have := hL.np; first | omega | ((try unfold Seen at *); (try simp only [beq_iff_eq, beq_eq_false_iff_ne, ne_eq, Bool.or_eq_true] at *); omega))).mono ?_); rintro e w2 ⟨x0, rfl, hs0, rfl⟩)
    | (go_at_call 17; (with_reducible refine (lmove1 hL (by have := hL.np; first | omega | ((try unfold Seen at *); (try simp only [beq_iff_eq, beq_eq_false_iff_ne, ne_eq, Bool.or_eq_true] at *); omega))).mono ?_); rintro e w2 ⟨rfl, hL, hg⟩; replace hG := hG.trans hg; have c0 := hL.cell))
  all_goals go_ret
  all_goals exact ⟨_, _, rfl, hL, hG, fun h => by first | (cases h; done) | rfl | omega, fun h => by first | (cases h; done) | omega⟩
set_option maxHeartbeats 2000000 in
theorem whitespace_eats (h : Lx w gl g A c l pos start) :
    Calls Tryd.prog 18 #[.pointer (some ⟨gl, 0, none⟩)] w (Eats gl g A c l pos start w) := by
  have c0 := h.cell
  have np := h.np
  have hL := h
  have hG := World.grownBy.refl w (some g)
  clear h
  go_enter Tryd.func18, Tryd.ntmps18
  go_wp2_with (first
    | (go_at_call 16; (with_reducible refine (lpeek0 hL (by have := hL.np; first | omega | ((try unfold Seen at *); (try simp only [beq_iff_eq, beq_eq_false_iff_ne, ne_eq, Bool.or_eq_true] at *); omega))).mono ?_); rintro e w2 ⟨x0, rfl, hs0, rfl⟩)
    | (go_at_call 17; (with_reducible refine (lmove1 hL (by have := hL.np; first | omega | ((try unfold Seen at *); (try simp only [beq_iff_eq, beq_eq_false_iff_ne, ne_eq, Bool.or_eq_true] at *); omega))).mono ?_); rintro e w2 ⟨rfl, hL, hg⟩; replace hG := hG.trans hg; have c0 := hL.cell))
  all_goals go_ret
  all_goals exact ⟨_, _, rfl, hL, hG, fun h => by first | (cases h; done) | rfl | omega, fun h => by first | (cases h; done) | omega⟩
set_option maxHeartbeats 2000000 in
theorem newline_eats (h : Lx w gl g A c l pos start) :
    Calls Tryd.prog 37 #[.pointer (some ⟨gl, 0, none⟩)] w (Eats gl g A c l pos start w) := by
  have c0 := h.cell
  have np := h.np
  have hL := h
  have hG := World.grownBy.refl w (some g)
  clear h
  go_enter Tryd.func37, Tryd.ntmps37
  go_wp2_with (first
    | (go_at_call 16; (with_reducible refine (lpeek0 hL (by have := hL.np; first | omega | ((try unfold Seen at *); (try simp only [beq_iff_eq, beq_eq_false_iff_ne, ne_eq, Bool.or_eq_true] at *); omega))).mono ?_); rintro e w2 ⟨x0, rfl, hs0, rfl⟩)
    | (go_at_call 16; (with_reducible refine (lpeek1 hL (by have := hL.np; first | omega | ((try unfold Seen at *); (try simp only [beq_iff_eq, beq_eq_false_iff_ne, ne_eq, Bool.or_eq_true] at *); omega))).mono ?_); rintro e w2 ⟨x1, rfl, hs1, rfl⟩)
    | (go_at_call 17; (with_reducible refine (lmove1 hL (by have := hL.np; first | omega | ((try unfold Seen at *); (try simp only [beq_iff_eq, beq_eq_false_iff_ne, ne_eq, Bool.or_eq_true] at *); omega))).mono ?_); rintro e w2 ⟨rfl, hL, hg⟩; replace hG := hG.trans hg; have c0 := hL.cell)
    | (go_at_call 17; (with_reducible refine (lmove2 hL (by have := hL.np; first | omega | ((try unfold Seen at *); (try simp only [beq_iff_eq, beq_eq_false_iff_ne, ne_eq, Bool.or_eq_true] at *); omega))).mono ?_); rintro e w2 ⟨rfl, hL, hg⟩; replace hG := hG.trans hg; have c0 := hL.cell))
  all_goals go_ret
  all_goals exact ⟨_, _, rfl, hL, hG, fun h => by first | (cases h; done) | rfl | omega, fun h => by first | (cases h; done) | omega⟩
set_option maxHeartbeats 2000000 in
theorem cdotoken_eats (h : Lx w gl g A c l pos start) :
    Calls Tryd.prog 30 #[.pointer (some ⟨gl, 0, none⟩)] w (Eats gl g A c l pos start w) := by
  have c0 := h.cell
  have np := h.np
  have hL := h
  have hG := World.grownBy.refl w (some g)
  clear h
  go_enter Tryd.func30, Tryd.ntmps30
  go_wp2_with (first
    | (go_at_call 16; (with_reducible refine (lpeek0 hL (by have := hL.np; first | omega | ((try unfold Seen at *); (try simp only [beq_iff_eq, beq_eq_false_iff_ne, ne_eq, Bool.or_eq_true] at *); omega))).mono ?_); rintro e w2 ⟨x0, rfl, hs0, rfl⟩)
    | (go_at_call 16; (with_reducible refine (lpeek1 hL (by have := hL.np; first | omega | ((try unfold Seen at *); (try simp only [beq_iff_eq, beq_eq_false_iff_ne, ne_eq, Bool.or_eq_true] at *); omega))).mono ?_); rintro e w2 ⟨x1, rfl, hs1, rfl⟩)
    | (go_at_call 16; (with_reducible refine (lpeek2 hL (by have := hL.np; first | omega | ((try unfold Seen at *); (try simp only [beq_iff_eq, beq_eq_false_iff_ne, ne_eq, Bool.or_eq_true] at *); omega))).mono ?_); rintro e w2 ⟨x2, rfl, hs2, rfl⟩)
    | (go_at_call 16; (with_reducible refine (lpeek3 hL (by have := hL.np; first | omega | ((try unfold Seen at *); (try simp only [beq_iff_eq, beq_eq_false_iff_ne, ne_eq, Bool.or_eq_true] at *); omega))).mono ?_); rintro e w2 ⟨x3, rfl, hs3, rfl⟩)
    | (go_at_call 17; (with_reducible refine (lmove4 hL (by have := hL.np; first | omega | ((try unfold Seen at *); (try simp only [beq_iff_eq, beq_eq_false_iff_ne, ne_eq, Bool.or_eq_true] at *); omega))).mono ?_); rintro e w2 ⟨rfl, hL, hg⟩; replace hG := hG.trans hg; have c0 := hL.cell))
  all_goals go_ret
  all_goals exact ⟨_, _, rfl, hL, hG, fun h => by first | (cases h; done) | rfl | omega, fun h => by first | (cases h; done) | omega⟩
set_option maxHeartbeats 2000000 in
theorem cdctoken_eats (h : Lx w gl g A c l pos start) :
    Calls Tryd.prog 24 #[.pointer (some ⟨gl, 0, none⟩)] w (Eats gl g A c l pos start w) := by
  have c0 := h.cell
  have np := h.np
  have hL := h
  have hG := World.grownBy.refl w (some g)
  clear h
  go_enter Tryd.func24, Tryd.ntmps24
  go_wp2_with (first
    | (go_at_call 16; (with_reducible refine (lpeek0 hL (by have := hL.np; first | omega | ((try unfold Seen at *); (try simp only [beq_iff_eq, beq_eq_false_iff_ne, ne_eq, Bool.or_eq_true] at *); omega))).mono ?_); rintro e w2 ⟨x0, rfl, hs0, rfl⟩)
    | (go_at_call 16; (with_reducible refine (lpeek1 hL (by have := hL.np; first | omega | ((try unfold Seen at *); (try simp only [beq_iff_eq, beq_eq_false_iff_ne, ne_eq, Bool.or_eq_true] at *); omega))).mono ?_); rintro e w2 ⟨x1, rfl, hs1, rfl⟩)
    | (go_at_call 16; (with_reducible refine (lpeek2 hL (by have := hL.np; first | omega | ((try unfold Seen at *); (try simp only [beq_iff_eq, beq_eq_false_iff_ne, ne_eq, Bool.or_eq_true] at *); omega))).mono ?_); rintro e w2 ⟨x2, rfl, hs2, rfl⟩)
    | (go_at_call 17; (with_reducible refine (lmove3 hL (by have := hL.np; first | omega | ((try unfold Seen at *); (try simp only [beq_iff_eq, beq_eq_false_iff_ne, ne_eq, Bool.or_eq_true] at *); omega))).mono ?_); rintro e w2 ⟨rfl, hL, hg⟩; replace hG := hG.trans hg; have c0 := hL.cell))
  all_goals go_ret
  all_goals exact ⟨_, _, rfl, hL, hG, fun h => by first | (cases h; done) | rfl | omega, fun h => by first | (cases h; done) | omega⟩
set_option maxHeartbeats 2000000 in
theorem columntoken_eats (h : Lx w gl g A c l pos start) :
    Calls Tryd.prog 32 #[.pointer (some ⟨gl, 0, none⟩)] w (Eats gl g A c l pos start w) := by
  have c0 := h.cell
  have np := h.np
  have hL := h
  have hG := World.grownBy.refl w (some g)
  clear h
  go_enter Tryd.func32, Tryd.ntmps32
  go_wp2_with (first
    | (go_at_call 16; (with_reducible refine (lpeek0 hL (by have := hL.np; first | omega | ((try unfold Seen at *); (try simp only [beq_iff_eq, beq_eq_false_iff_ne, ne_eq, Bool.or_eq_true] at *); omega))).mono ?_); rintro e w2 ⟨x0, rfl, hs0, rfl⟩)
    | (go_at_call 16; (with_reducible refine (lpeek1 hL (by have := hL.np; first | omega | ((try unfold Seen at *); (try simp only [beq_iff_eq, beq_eq_false_iff_ne, ne_eq, Bool.or_eq_true] at *); omega))).mono ?_); rintro e w2 ⟨x1, rfl, hs1, rfl⟩)
    | (go_at_call 17; (with_reducible refine (lmove2 hL (by have := hL.np; first | omega | ((try unfold Seen at *); (try simp only [beq_iff_eq, beq_eq_false_iff_ne, ne_eq, Bool.or_eq_true] at *); omega))).mono ?_); rintro e w2 ⟨rfl, hL, hg⟩; replace hG := hG.trans hg; have c0 := hL.cell))
  all_goals go_ret
  all_goals exact ⟨_, _, rfl, hL, hG, fun h => by first | (cases h; done) | rfl | omega, fun h => by first | (cases h; done) | omega⟩
set_option maxHeartbeats 2000000 in
theorem byte_eats (x : UInt8) (h : Lx w gl g A c l pos start) (hx : (0 : Int) < (x.toNat : Int)) :
    Calls Tryd.prog 39 #[.pointer (some ⟨gl, 0, none⟩), .int .u8 (x.toNat : Int)] w (Eats gl g A c l pos start w) := by
  have c0 := h.cell
  have np := h.np
  have hL := h
  have hG := World.grownBy.refl w (some g)
  clear h
  go_enter Tryd.func39, Tryd.ntmps39
  go_wp2_with (first
    | (go_at_call 16; (with_reducible refine (lpeek0 hL (by have := hL.np; first | omega | ((try unfold Seen at *); (try simp only [beq_iff_eq, beq_eq_false_iff_ne, ne_eq, Bool.or_eq_true] at *); omega))).mono ?_); rintro e w2 ⟨x0, rfl, hs0, rfl⟩)
    | (go_at_call 17; (with_reducible refine (lmove1 hL (by have := hL.np; first | omega | ((try unfold Seen at *); (try simp only [beq_iff_eq, beq_eq_false_iff_ne, ne_eq, Bool.or_eq_true] at *); omega))).mono ?_); rintro e w2 ⟨rfl, hL, hg⟩; replace hG := hG.trans hg; have c0 := hL.cell))
  all_goals go_ret
  all_goals exact ⟨_, _, rfl, hL, hG, fun h => by first | (cases h; done) | rfl | omega, fun h => by first | (cases h; done) | omega⟩
set_option maxHeartbeats 2000000 in
theorem bracket_eats (h : Lx w gl g A c l pos start) :
    Calls Tryd.prog 20 #[.pointer (some ⟨gl, 0, none⟩)] w (Kinds gl g A c l pos start w) := by
  have c0 := h.cell
  have np := h.np
  have hL := h
  have hG := World.grownBy.refl w (some g)
  clear h
  go_enter Tryd.func20, Tryd.ntmps20
  go_wp2_with (first
    | (go_at_call 16; (with_reducible refine (lpeek0 hL (by have := hL.np; first | omega | ((try unfold Seen at *); (try simp only [beq_iff_eq, beq_eq_false_iff_ne, ne_eq, Bool.or_eq_true] at *); omega))).mono ?_); rintro e w2 ⟨x0, rfl, hs0, rfl⟩)
    | (go_at_call 17; (with_reducible refine (lmove1 hL (by have := hL.np; first | omega | ((try unfold Seen at *); (try simp only [beq_iff_eq, beq_eq_false_iff_ne, ne_eq, Bool.or_eq_true] at *); omega))).mono ?_); rintro e w2 ⟨rfl, hL, hg⟩; replace hG := hG.trans hg; have c0 := hL.cell))
  all_goals go_ret
  all_goals exact ⟨_, _, rfl, hL, hG, fun h => by first | rfl | omega | (exact absurd h (by decide)), fun h => by first | omega | (exact absurd rfl h)⟩
set_option maxHeartbeats 2000000 in
theorem match_eats (h : Lx w gl g A c l pos start) (hlt : pos < l.length) :
    Calls Tryd.prog 28 #[.pointer (some ⟨gl, 0, none⟩)] w (Kinds gl g A c l pos start w) := by
  have c0 := h.cell
  have np := h.np
  have hL := h
  have hG := World.grownBy.refl w (some g)
  clear h
  go_enter Tryd.func28, Tryd.ntmps28
  go_wp2_with (first
    | (go_at_call 16; (with_reducible refine (lpeek0 hL (by have := hL.np; first | omega | ((try unfold Seen at *); (try simp only [beq_iff_eq, beq_eq_false_iff_ne, ne_eq, Bool.or_eq_true] at *); omega))).mono ?_); rintro e w2 ⟨x0, rfl, hs0, rfl⟩)
    | (go_at_call 16; (with_reducible refine (lpeek1 hL (by have := hL.np; first | omega | ((try unfold Seen at *); (try simp only [beq_iff_eq, beq_eq_false_iff_ne, ne_eq, Bool.or_eq_true] at *); omega))).mono ?_); rintro e w2 ⟨x1, rfl, hs1, rfl⟩)
    | (go_at_call 17; (with_reducible refine (lmove2 hL (by have := hL.np; first | omega | ((try unfold Seen at *); (try simp only [beq_iff_eq, beq_eq_false_iff_ne, ne_eq, Bool.or_eq_true] at *); omega))).mono ?_); rintro e w2 ⟨rfl, hL, hg⟩; replace hG := hG.trans hg; have c0 := hL.cell))
  all_goals go_ret
  all_goals exact ⟨_, _, rfl, hL, hG, fun h => by first | rfl | omega | (exact absurd h (by decide)), fun h => by first | omega | (exact absurd rfl h)⟩
end
end Go.Proofs.YtngmdgefecebmaaDoor
