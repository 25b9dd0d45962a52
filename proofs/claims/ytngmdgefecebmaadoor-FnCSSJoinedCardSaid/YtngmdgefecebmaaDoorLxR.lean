/- The input's reading of a character at a byte that begins one: how many bytes it tells. Conditions: as for the lexer's first steps. -/
import Derived.Test.YtngmdgefecebmaaDoorLx1
namespace Go.Proofs.YtngmdgefecebmaaDoor
open Go.RowKit
set_option linter.unusedVariables false
set_option linter.unusedSimpArgs false
section
variable {w w' : World} {gl g c pos start : Nat} {A : Option Addr} {l : List UInt8}
theorem lpeek_d (k : Nat) (n : Nat) (x : UInt8) (h : Lx w gl g A c l pos start) (hx : l[pos + k]? = some x) :
    Calls Tryd.prog 16 #[.pointer (some ⟨g, 0, none⟩), .int .i64 (k : Int)] (w.drewN n) fun e w' => e = .returned (.int .u8 (x.toNat : Int)) ∧ w.drewN n = w' := by
  have hl := h.hl
  have hlt := (List.getElem?_eq_some_iff.1 hx).1
  exact peek_any g c pos start A l _ k x (h.inp.drewN n) (by omega) (by rw [List.getElem?_append_left hlt]; exact hx)
theorem lpeek_d0 (n : Nat) (x : UInt8) (h : Lx w gl g A c l pos start) (hx : l[pos]? = some x) :
    Calls Tryd.prog 16 #[.pointer (some ⟨g, 0, none⟩), .int .i64 0] (w.drewN n) fun e w' => e = .returned (.int .u8 (x.toNat : Int)) ∧ w.drewN n = w' := lpeek_d 0 n x h hx
theorem lpeek_d1 (n : Nat) (x : UInt8) (h : Lx w gl g A c l pos start) (hx : l[pos + 1]? = some x) :
    Calls Tryd.prog 16 #[.pointer (some ⟨g, 0, none⟩), .int .i64 1] (w.drewN n) fun e w' => e = .returned (.int .u8 (x.toNat : Int)) ∧ w.drewN n = w' := lpeek_d 1 n x h hx
theorem lpeek_d2 (n : Nat) (x : UInt8) (h : Lx w gl g A c l pos start) (hx : l[pos + 2]? = some x) :
    Calls Tryd.prog 16 #[.pointer (some ⟨g, 0, none⟩), .int .i64 2] (w.drewN n) fun e w' => e = .returned (.int .u8 (x.toNat : Int)) ∧ w.drewN n = w' := lpeek_d 2 n x h hx
theorem lpeek_d3 (n : Nat) (x : UInt8) (h : Lx w gl g A c l pos start) (hx : l[pos + 3]? = some x) :
    Calls Tryd.prog 16 #[.pointer (some ⟨g, 0, none⟩), .int .i64 3] (w.drewN n) fun e w' => e = .returned (.int .u8 (x.toNat : Int)) ∧ w.drewN n = w' := lpeek_d 3 n x h hx
theorem lpeek_dw (x : UInt8) (h : Lx w gl g A c l pos start) (hx : l[pos]? = some x) :
    Calls Tryd.prog 16 #[.pointer (some ⟨g, 0, none⟩), .int .i64 0] w fun e w' => e = .returned (.int .u8 (x.toNat : Int)) ∧ w = w' := lpeek_d 0 0 x h hx
/-- How many bytes. -/
def RuneRet (n : Nat) (w : World) (e : Ending) (w' : World) : Prop := (∃ r : Int, e = .returned (.tuple #[.int .i32 r, .int .i64 (n : Int)])) ∧ ∃ q, w' = w.drewN q
set_option maxHeartbeats 1000000 in
theorem rune_1 (x : UInt8) (h : Lx w gl g A c l pos start) (hx : l[pos]? = some x) (h192 : (192 : Int) ≤ (x.toNat : Int)) (hr : l.length < pos + 2) :
    Calls Tryd.prog 48 #[.pointer (some ⟨g, 0, none⟩), .int .i64 0] w (RuneRet 1 w) := by
  have hl := h.hl
  have c0 := h.inp.c0
  have c1 := h.inp.c1
  have HX := hide hx
  have H := hide h
  have e1 : (l.length : Int) + 1 - 1 = (l.length : Int) := by omega
  have t1 : IntKind.i64.wrap ((l.length : Int)) = (l.length : Int) := IntWalk.i64_in _ (by omega)
  have t2 : IntKind.i64.wrap ((l.length : Int) - (pos : Int)) = (l.length : Int) - (pos : Int) := IntWalk.i64_in _ (by have := h.np; omega)
  have d1f : decide ((x.toNat : Int) < 192) = false := decide_eq_false (by omega)
  have r2t : decide ((l.length : Int) - (pos : Int) < 2) = true := decide_eq_true (by omega)
  clear hx h hr
  go_enter Tryd.func48, Tryd.ntmps48
  go_wp2_with (go_at_call 16; (with_reducible refine (lpeek_dw x H.out HX.out).mono ?_); rintro e w1 ⟨rfl, rfl⟩)
  go_quiet (fail)
  go_wp2_with (first | (go_at_call 16; (with_reducible refine (lpeek_d0 _ x H.out HX.out).mono ?_); rintro e w1 ⟨rfl, rfl⟩))
  go_ret2
  exact ⟨⟨_, rfl⟩, _, rfl⟩
set_option maxHeartbeats 1000000 in
theorem rune_2 (x : UInt8) (h : Lx w gl g A c l pos start) (hx : l[pos]? = some x) (h192 : (192 : Int) ≤ (x.toNat : Int)) (hr : pos + 2 ≤ l.length) (h224 : (x.toNat : Int) < 224) :
    Calls Tryd.prog 48 #[.pointer (some ⟨g, 0, none⟩), .int .i64 0] w (RuneRet 2 w) := by
  have hl := h.hl
  have c0 := h.inp.c0
  have c1 := h.inp.c1
  have HX := hide hx
  have H := hide h
  have e1 : (l.length : Int) + 1 - 1 = (l.length : Int) := by omega
  have t1 : IntKind.i64.wrap ((l.length : Int)) = (l.length : Int) := IntWalk.i64_in _ (by omega)
  have t2 : IntKind.i64.wrap ((l.length : Int) - (pos : Int)) = (l.length : Int) - (pos : Int) := IntWalk.i64_in _ (by have := h.np; omega)
  have d1f : decide ((x.toNat : Int) < 192) = false := decide_eq_false (by omega)
  have r2f : decide ((l.length : Int) - (pos : Int) < 2) = false := decide_eq_false (by omega)
  have d2t : decide ((x.toNat : Int) < 224) = true := decide_eq_true (by omega)
  obtain ⟨y1, hy1⟩ : ∃ y, l[pos + 1]? = some y := ⟨_, List.getElem?_eq_getElem (by omega)⟩
  have HY1 := hide hy1
  clear hx h hy1 hr
  go_enter Tryd.func48, Tryd.ntmps48
  go_wp2_with (go_at_call 16; (with_reducible refine (lpeek_dw x H.out HX.out).mono ?_); rintro e w1 ⟨rfl, rfl⟩)
  go_quiet (fail)
  go_wp2_with (first | (go_at_call 16; (with_reducible refine (lpeek_d0 _ x H.out HX.out).mono ?_); rintro e w1 ⟨rfl, rfl⟩) | (go_at_call 16; (with_reducible refine (lpeek_d1 _ y1 H.out HY1.out).mono ?_); rintro e w1 ⟨rfl, rfl⟩))
  go_quiet (fail)
  go_wp2_with (first | (go_at_call 16; (with_reducible refine (lpeek_d0 _ x H.out HX.out).mono ?_); rintro e w1 ⟨rfl, rfl⟩) | (go_at_call 16; (with_reducible refine (lpeek_d1 _ y1 H.out HY1.out).mono ?_); rintro e w1 ⟨rfl, rfl⟩))
  go_ret2
  exact ⟨⟨_, rfl⟩, _, rfl⟩
set_option maxHeartbeats 1000000 in
theorem rune_2b (x : UInt8) (h : Lx w gl g A c l pos start) (hx : l[pos]? = some x) (h192 : (192 : Int) ≤ (x.toNat : Int)) (hr : l.length = pos + 2) (h224 : (224 : Int) ≤ (x.toNat : Int)) :
    Calls Tryd.prog 48 #[.pointer (some ⟨g, 0, none⟩), .int .i64 0] w (RuneRet 2 w) := by
  have hl := h.hl
  have c0 := h.inp.c0
  have c1 := h.inp.c1
  have HX := hide hx
  have H := hide h
  have e1 : (l.length : Int) + 1 - 1 = (l.length : Int) := by omega
  have t1 : IntKind.i64.wrap ((l.length : Int)) = (l.length : Int) := IntWalk.i64_in _ (by omega)
  have t2 : IntKind.i64.wrap ((l.length : Int) - (pos : Int)) = (l.length : Int) - (pos : Int) := IntWalk.i64_in _ (by have := h.np; omega)
  have d1f : decide ((x.toNat : Int) < 192) = false := decide_eq_false (by omega)
  have r2f : decide ((l.length : Int) - (pos : Int) < 2) = false := decide_eq_false (by omega)
  have d2f : decide ((x.toNat : Int) < 224) = false := decide_eq_false (by omega)
  have r3t : decide ((l.length : Int) - (pos : Int) < 3) = true := decide_eq_true (by omega)
  obtain ⟨y1, hy1⟩ : ∃ y, l[pos + 1]? = some y := ⟨_, List.getElem?_eq_getElem (by omega)⟩
  have HY1 := hide hy1
  clear hx h hy1 hr
  go_enter Tryd.func48, Tryd.ntmps48
  go_wp2_with (go_at_call 16; (with_reducible refine (lpeek_dw x H.out HX.out).mono ?_); rintro e w1 ⟨rfl, rfl⟩)
  go_quiet (fail)
  go_wp2_with (first | (go_at_call 16; (with_reducible refine (lpeek_d0 _ x H.out HX.out).mono ?_); rintro e w1 ⟨rfl, rfl⟩) | (go_at_call 16; (with_reducible refine (lpeek_d1 _ y1 H.out HY1.out).mono ?_); rintro e w1 ⟨rfl, rfl⟩))
  go_quiet (fail)
  go_wp2_with (first | (go_at_call 16; (with_reducible refine (lpeek_d0 _ x H.out HX.out).mono ?_); rintro e w1 ⟨rfl, rfl⟩) | (go_at_call 16; (with_reducible refine (lpeek_d1 _ y1 H.out HY1.out).mono ?_); rintro e w1 ⟨rfl, rfl⟩))
  go_ret2
  exact ⟨⟨_, rfl⟩, _, rfl⟩
set_option maxHeartbeats 1000000 in
theorem rune_3 (x : UInt8) (h : Lx w gl g A c l pos start) (hx : l[pos]? = some x) (h192 : (192 : Int) ≤ (x.toNat : Int)) (hr : pos + 3 ≤ l.length) (h224 : (224 : Int) ≤ (x.toNat : Int)) (h240 : (x.toNat : Int) < 240) :
    Calls Tryd.prog 48 #[.pointer (some ⟨g, 0, none⟩), .int .i64 0] w (RuneRet 3 w) := by
  have hl := h.hl
  have c0 := h.inp.c0
  have c1 := h.inp.c1
  have HX := hide hx
  have H := hide h
  have e1 : (l.length : Int) + 1 - 1 = (l.length : Int) := by omega
  have t1 : IntKind.i64.wrap ((l.length : Int)) = (l.length : Int) := IntWalk.i64_in _ (by omega)
  have t2 : IntKind.i64.wrap ((l.length : Int) - (pos : Int)) = (l.length : Int) - (pos : Int) := IntWalk.i64_in _ (by have := h.np; omega)
  have d1f : decide ((x.toNat : Int) < 192) = false := decide_eq_false (by omega)
  have r2f : decide ((l.length : Int) - (pos : Int) < 2) = false := decide_eq_false (by omega)
  have d2f : decide ((x.toNat : Int) < 224) = false := decide_eq_false (by omega)
  have r3f : decide ((l.length : Int) - (pos : Int) < 3) = false := decide_eq_false (by omega)
  have d3t : decide ((x.toNat : Int) < 240) = true := decide_eq_true (by omega)
  obtain ⟨y1, hy1⟩ : ∃ y, l[pos + 1]? = some y := ⟨_, List.getElem?_eq_getElem (by omega)⟩
  have HY1 := hide hy1
  obtain ⟨y2, hy2⟩ : ∃ y, l[pos + 2]? = some y := ⟨_, List.getElem?_eq_getElem (by omega)⟩
  have HY2 := hide hy2
  clear hx h hy1 hy2 hr
  go_enter Tryd.func48, Tryd.ntmps48
  go_wp2_with (go_at_call 16; (with_reducible refine (lpeek_dw x H.out HX.out).mono ?_); rintro e w1 ⟨rfl, rfl⟩)
  go_quiet (fail)
  go_wp2_with (first | (go_at_call 16; (with_reducible refine (lpeek_d0 _ x H.out HX.out).mono ?_); rintro e w1 ⟨rfl, rfl⟩) | (go_at_call 16; (with_reducible refine (lpeek_d1 _ y1 H.out HY1.out).mono ?_); rintro e w1 ⟨rfl, rfl⟩) | (go_at_call 16; (with_reducible refine (lpeek_d2 _ y2 H.out HY2.out).mono ?_); rintro e w1 ⟨rfl, rfl⟩))
  go_quiet (fail)
  go_wp2_with (first | (go_at_call 16; (with_reducible refine (lpeek_d0 _ x H.out HX.out).mono ?_); rintro e w1 ⟨rfl, rfl⟩) | (go_at_call 16; (with_reducible refine (lpeek_d1 _ y1 H.out HY1.out).mono ?_); rintro e w1 ⟨rfl, rfl⟩) | (go_at_call 16; (with_reducible refine (lpeek_d2 _ y2 H.out HY2.out).mono ?_); rintro e w1 ⟨rfl, rfl⟩))
  go_quiet (fail)
  go_wp2_with (first | (go_at_call 16; (with_reducible refine (lpeek_d0 _ x H.out HX.out).mono ?_); rintro e w1 ⟨rfl, rfl⟩) | (go_at_call 16; (with_reducible refine (lpeek_d1 _ y1 H.out HY1.out).mono ?_); rintro e w1 ⟨rfl, rfl⟩) | (go_at_call 16; (with_reducible refine (lpeek_d2 _ y2 H.out HY2.out).mono ?_); rintro e w1 ⟨rfl, rfl⟩))
  go_ret2
  exact ⟨⟨_, rfl⟩, _, rfl⟩
set_option maxHeartbeats 1000000 in
theorem rune_3b (x : UInt8) (h : Lx w gl g A c l pos start) (hx : l[pos]? = some x) (h192 : (192 : Int) ≤ (x.toNat : Int)) (hr : l.length = pos + 3) (h240 : (240 : Int) ≤ (x.toNat : Int)) :
    Calls Tryd.prog 48 #[.pointer (some ⟨g, 0, none⟩), .int .i64 0] w (RuneRet 3 w) := by
  have hl := h.hl
  have c0 := h.inp.c0
  have c1 := h.inp.c1
  have HX := hide hx
  have H := hide h
  have e1 : (l.length : Int) + 1 - 1 = (l.length : Int) := by omega
  have t1 : IntKind.i64.wrap ((l.length : Int)) = (l.length : Int) := IntWalk.i64_in _ (by omega)
  have t2 : IntKind.i64.wrap ((l.length : Int) - (pos : Int)) = (l.length : Int) - (pos : Int) := IntWalk.i64_in _ (by have := h.np; omega)
  have d1f : decide ((x.toNat : Int) < 192) = false := decide_eq_false (by omega)
  have r2f : decide ((l.length : Int) - (pos : Int) < 2) = false := decide_eq_false (by omega)
  have d2f : decide ((x.toNat : Int) < 224) = false := decide_eq_false (by omega)
  have r3f : decide ((l.length : Int) - (pos : Int) < 3) = false := decide_eq_false (by omega)
  have d3f : decide ((x.toNat : Int) < 240) = false := decide_eq_false (by omega)
  have r4t : decide ((l.length : Int) - (pos : Int) < 4) = true := decide_eq_true (by omega)
  obtain ⟨y1, hy1⟩ : ∃ y, l[pos + 1]? = some y := ⟨_, List.getElem?_eq_getElem (by omega)⟩
  have HY1 := hide hy1
  obtain ⟨y2, hy2⟩ : ∃ y, l[pos + 2]? = some y := ⟨_, List.getElem?_eq_getElem (by omega)⟩
  have HY2 := hide hy2
  clear hx h hy1 hy2 hr
  go_enter Tryd.func48, Tryd.ntmps48
  go_wp2_with (go_at_call 16; (with_reducible refine (lpeek_dw x H.out HX.out).mono ?_); rintro e w1 ⟨rfl, rfl⟩)
  go_quiet (fail)
  go_wp2_with (first | (go_at_call 16; (with_reducible refine (lpeek_d0 _ x H.out HX.out).mono ?_); rintro e w1 ⟨rfl, rfl⟩) | (go_at_call 16; (with_reducible refine (lpeek_d1 _ y1 H.out HY1.out).mono ?_); rintro e w1 ⟨rfl, rfl⟩) | (go_at_call 16; (with_reducible refine (lpeek_d2 _ y2 H.out HY2.out).mono ?_); rintro e w1 ⟨rfl, rfl⟩))
  go_quiet (fail)
  go_wp2_with (first | (go_at_call 16; (with_reducible refine (lpeek_d0 _ x H.out HX.out).mono ?_); rintro e w1 ⟨rfl, rfl⟩) | (go_at_call 16; (with_reducible refine (lpeek_d1 _ y1 H.out HY1.out).mono ?_); rintro e w1 ⟨rfl, rfl⟩) | (go_at_call 16; (with_reducible refine (lpeek_d2 _ y2 H.out HY2.out).mono ?_); rintro e w1 ⟨rfl, rfl⟩))
  go_quiet (fail)
  go_wp2_with (first | (go_at_call 16; (with_reducible refine (lpeek_d0 _ x H.out HX.out).mono ?_); rintro e w1 ⟨rfl, rfl⟩) | (go_at_call 16; (with_reducible refine (lpeek_d1 _ y1 H.out HY1.out).mono ?_); rintro e w1 ⟨rfl, rfl⟩) | (go_at_call 16; (with_reducible refine (lpeek_d2 _ y2 H.out HY2.out).mono ?_); rintro e w1 ⟨rfl, rfl⟩))
  go_ret2
  exact ⟨⟨_, rfl⟩, _, rfl⟩
set_option maxHeartbeats 1000000 in
theorem rune_4 (x : UInt8) (h : Lx w gl g A c l pos start) (hx : l[pos]? = some x) (h192 : (192 : Int) ≤ (x.toNat : Int)) (hr : pos + 4 ≤ l.length) (h240 : (240 : Int) ≤ (x.toNat : Int)) :
    Calls Tryd.prog 48 #[.pointer (some ⟨g, 0, none⟩), .int .i64 0] w (RuneRet 4 w) := by
  have hl := h.hl
  have c0 := h.inp.c0
  have c1 := h.inp.c1
  have HX := hide hx
  have H := hide h
  have e1 : (l.length : Int) + 1 - 1 = (l.length : Int) := by omega
  have t1 : IntKind.i64.wrap ((l.length : Int)) = (l.length : Int) := IntWalk.i64_in _ (by omega)
  have t2 : IntKind.i64.wrap ((l.length : Int) - (pos : Int)) = (l.length : Int) - (pos : Int) := IntWalk.i64_in _ (by have := h.np; omega)
  have d1f : decide ((x.toNat : Int) < 192) = false := decide_eq_false (by omega)
  have r2f : decide ((l.length : Int) - (pos : Int) < 2) = false := decide_eq_false (by omega)
  have d2f : decide ((x.toNat : Int) < 224) = false := decide_eq_false (by omega)
  have r3f : decide ((l.length : Int) - (pos : Int) < 3) = false := decide_eq_false (by omega)
  have d3f : decide ((x.toNat : Int) < 240) = false := decide_eq_false (by omega)
  have r4f : decide ((l.length : Int) - (pos : Int) < 4) = false := decide_eq_false (by omega)
  obtain ⟨y1, hy1⟩ : ∃ y, l[pos + 1]? = some y := ⟨_, List.getElem?_eq_getElem (by omega)⟩
  have HY1 := hide hy1
  obtain ⟨y2, hy2⟩ : ∃ y, l[pos + 2]? = some y := ⟨_, List.getElem?_eq_getElem (by omega)⟩
  have HY2 := hide hy2
  obtain ⟨y3, hy3⟩ : ∃ y, l[pos + 3]? = some y := ⟨_, List.getElem?_eq_getElem (by omega)⟩
  have HY3 := hide hy3
  clear hx h hy1 hy2 hy3 hr
  go_enter Tryd.func48, Tryd.ntmps48
  go_wp2_with (go_at_call 16; (with_reducible refine (lpeek_dw x H.out HX.out).mono ?_); rintro e w1 ⟨rfl, rfl⟩)
  go_quiet (fail)
  go_wp2_with (first | (go_at_call 16; (with_reducible refine (lpeek_d0 _ x H.out HX.out).mono ?_); rintro e w1 ⟨rfl, rfl⟩) | (go_at_call 16; (with_reducible refine (lpeek_d1 _ y1 H.out HY1.out).mono ?_); rintro e w1 ⟨rfl, rfl⟩) | (go_at_call 16; (with_reducible refine (lpeek_d2 _ y2 H.out HY2.out).mono ?_); rintro e w1 ⟨rfl, rfl⟩) | (go_at_call 16; (with_reducible refine (lpeek_d3 _ y3 H.out HY3.out).mono ?_); rintro e w1 ⟨rfl, rfl⟩))
  go_quiet (fail)
  go_wp2_with (first | (go_at_call 16; (with_reducible refine (lpeek_d0 _ x H.out HX.out).mono ?_); rintro e w1 ⟨rfl, rfl⟩) | (go_at_call 16; (with_reducible refine (lpeek_d1 _ y1 H.out HY1.out).mono ?_); rintro e w1 ⟨rfl, rfl⟩) | (go_at_call 16; (with_reducible refine (lpeek_d2 _ y2 H.out HY2.out).mono ?_); rintro e w1 ⟨rfl, rfl⟩) | (go_at_call 16; (with_reducible refine (lpeek_d3 _ y3 H.out HY3.out).mono ?_); rintro e w1 ⟨rfl, rfl⟩))
  go_quiet (fail)
  go_wp2_with (first | (go_at_call 16; (with_reducible refine (lpeek_d0 _ x H.out HX.out).mono ?_); rintro e w1 ⟨rfl, rfl⟩) | (go_at_call 16; (with_reducible refine (lpeek_d1 _ y1 H.out HY1.out).mono ?_); rintro e w1 ⟨rfl, rfl⟩) | (go_at_call 16; (with_reducible refine (lpeek_d2 _ y2 H.out HY2.out).mono ?_); rintro e w1 ⟨rfl, rfl⟩) | (go_at_call 16; (with_reducible refine (lpeek_d3 _ y3 H.out HY3.out).mono ?_); rintro e w1 ⟨rfl, rfl⟩))
  go_ret2
  exact ⟨⟨_, rfl⟩, _, rfl⟩
theorem rune_any (x : UInt8) (h : Lx w gl g A c l pos start) (hx : l[pos]? = some x) (h192 : (192 : Int) ≤ (x.toNat : Int)) :
    Calls Tryd.prog 48 #[.pointer (some ⟨g, 0, none⟩), .int .i64 0] w fun e w' => ∃ n : Nat, 1 ≤ n ∧ pos + n ≤ l.length ∧ RuneRet n w e w' := by
  have hlt := (List.getElem?_eq_some_iff.1 hx).1
  by_cases r2 : l.length < pos + 2
  · exact (rune_1 x h hx h192 r2).mono fun e w' hh => ⟨1, by omega, by omega, hh⟩
  by_cases d2 : (x.toNat : Int) < 224
  · exact (rune_2 x h hx h192 (by omega) d2).mono fun e w' hh => ⟨2, by omega, by omega, hh⟩
  by_cases r3 : l.length = pos + 2
  · exact (rune_2b x h hx h192 r3 (by omega)).mono fun e w' hh => ⟨2, by omega, by omega, hh⟩
  by_cases d3 : (x.toNat : Int) < 240
  · exact (rune_3 x h hx h192 (by omega) (by omega) d3).mono fun e w' hh => ⟨3, by omega, by omega, hh⟩
  by_cases r4 : l.length = pos + 3
  · exact (rune_3b x h hx h192 r4 (by omega)).mono fun e w' hh => ⟨3, by omega, by omega, hh⟩
  exact (rune_4 x h hx h192 (by omega) (by omega)).mono fun e w' hh => ⟨4, by omega, by omega, hh⟩
end
end Go.Proofs.YtngmdgefecebmaaDoor
