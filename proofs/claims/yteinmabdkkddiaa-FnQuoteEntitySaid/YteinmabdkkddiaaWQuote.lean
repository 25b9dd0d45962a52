/- The walks of 'laws.FnNoQuote' and 'laws.FnQuoteEntity': both return true for every input. No condition. (printed by gen_wquote.py) -/
import Derived.Test.YteinmabdkkddiaaQuote
import Derived.Test.YteinmabdkkddiaaLoose
namespace Go.Proofs.Yteinmabdkkddiaa
open Go.RowKit
set_option linter.unusedVariables false

theorem iq_of {v : Value} {w : World} {q n : Int} (h : Calls Try.prog 15 #[v] w (QRet q n w)) : Calls Try.prog 10 #[v] w (QRet q n w) := by
  go_enter Try.func10, Try.ntmps10
  go_wp2_with (go_at_call 15; refine h.mono ?_; rintro e w' ⟨rfl, hb⟩)
  go_ret2
  exact ⟨rfl, hb⟩
theorem qe_no (A : Option Addr) (l : List UInt8) (c : Nat) (w : World) (hs : BS w A l) (h2 : l.length ≤ 2147483647) (h38 : ∀ d, l[0]? = some d → d ≠ 38) :
    Calls Try.prog 10 #[.slice A l.length c] w (QRet 0 0 w) := by
  by_cases h5 : l.length < 5
  · exact iq_of (qe_short A l c w h5)
  · obtain ⟨b, o, rfl, _, _⟩ := hs.form (by omega)
    obtain ⟨d, hd⟩ : ∃ x, l[0]? = some x := ⟨_, List.getElem?_eq_getElem (by omega)⟩
    exact iq_of (qe_other b o l c d w hs (by omega) h2 hd (h38 d hd))
set_option maxHeartbeats 1000000 in
theorem fnNoQuote_walk (a : Option Addr) (l : List UInt8) (c : Nat) (W : World) (bs : BS W a l) :
    Calls Try.prog 4 #[.slice a l.length c] W fun e w' => e = .returned (.bool true) ∧ Below W.heap.size W w' := by
  by_cases h1 : 2147483647 < l.length
  · go_enter Try.func4, Try.ntmps4
    go_wp2
    go_ret
    exact ⟨rfl, Below.refl _ _⟩
  by_cases h2 : 5000 < l.length
  · go_enter Try.func4, Try.ntmps4
    go_wp2
    go_ret
    exact ⟨rfl, Below.refl _ _⟩
  by_cases h38 : ∀ d, l[0]? = some d → d ≠ 38
  case neg =>
    simp only [Classical.not_forall] at h38
    obtain ⟨d, hd, h⟩ := h38
    obtain rfl : d = 38 := Classical.not_not.1 h
    obtain ⟨b, o, rfl, cell⟩ := bs.at_ hd
    have hl : 0 < l.length := (List.getElem?_eq_some_iff.1 hd).1
    rw [Nat.add_zero] at cell
    clear hd h
    go_enter Try.func4, Try.ntmps4
    go_wp2
    go_ret
    exact ⟨rfl, Below.refl _ _⟩
  have H38 := hide h38
  rcases Nat.eq_zero_or_pos l.length with h0 | h0
  · obtain rfl : l = [] := List.eq_nil_of_length_eq_zero h0
    clear h38 h0 h1 h2
    go_enter Try.func4, Try.ntmps4
    go_wp2_with fail
    refine (qe_no a [] c _ bs (by simp) H38.out).mono ?_
    rintro e w1 ⟨rfl, hB⟩
    have kc := fun n c C => run_bytes_lit (P := Try.prog) 22 5 Try.underlying22 Try.underlying5 w1 w1.heap.size n c C rfl
    go_wp2_with fail
    refine (iq_of (qe_0 w1.heap.size 0 [] 6 6 _ rfl (BS.lit rfl [38, 113, 117, 111, 116, 59] _ _ _ rfl) (by decide) (by decide))).mono ?_
    rintro e w2 ⟨rfl, hB2⟩
    go_wp2
    go_ret
    refine ⟨rfl, (hB.alloc hB.size _).trans (hB2.mono ?_)⟩
    have := hB.size
    simp
    omega
  · obtain ⟨d, hd⟩ : ∃ x, l[0]? = some x := ⟨_, List.getElem?_eq_getElem h0⟩
    obtain ⟨b, o, rfl, cell⟩ := bs.at_ hd
    rw [Nat.add_zero] at cell
    have e38 : ((d.toNat : Int) == 38) = false := by rw [beq_eq_false_iff_ne]; intro e; exact h38 d hd (UInt8.toNat_inj.1 (by simp; omega))
    clear hd h38
    go_enter Try.func4, Try.ntmps4
    go_wp2_with fail
    refine (qe_no _ l c _ bs (by omega) H38.out).mono ?_
    rintro e w1 ⟨rfl, hB⟩
    have kc := fun n c C => run_bytes_lit (P := Try.prog) 22 5 Try.underlying22 Try.underlying5 w1 w1.heap.size n c C rfl
    go_wp2_with fail
    refine (iq_of (qe_0 w1.heap.size 0 [] 6 6 _ rfl (BS.lit rfl [38, 113, 117, 111, 116, 59] _ _ _ rfl) (by decide) (by decide))).mono ?_
    rintro e w2 ⟨rfl, hB2⟩
    go_wp2
    go_ret
    refine ⟨rfl, (hB.alloc hB.size _).trans (hB2.mono ?_)⟩
    have := hB.size
    simp
    omega

theorem quotes_any (w : World) :
    Calls Try.prog 11 #[] w fun e w' => e = .returned (.slice (some ⟨w.heap.size, 0, none⟩) 6 6) ∧ w.alloc (.cells #[.string ⟨#[38, 113, 117, 111, 116, 59]⟩, .string ⟨#[38, 35, 51, 52, 59]⟩, .string ⟨#[38, 35, 120, 50, 50, 59]⟩, .string ⟨#[38, 97, 112, 111, 115, 59]⟩, .string ⟨#[38, 35, 51, 57, 59]⟩, .string ⟨#[38, 35, 120, 50, 55, 59]⟩] 9) = w' := by
  go_enter Try.func11, Try.ntmps11
  go_wp2
  go_ret
  exact ⟨rfl, rfl⟩

set_option maxHeartbeats 1000000 in
theorem fnQuoteEntity_0 (a : Option Addr) (l : List UInt8) (c : Nat) (W : World) (bs : BS W a l) (h : l.length ≤ 5000) :
    Calls Try.prog 5 #[.int .i64 0, .slice a l.length c] W fun e w' => e = .returned (.bool true) ∧ Below W.heap.size W w' := by
  obtain ⟨C, hC, hconv⟩ := lo_convN (P := Try.prog) (W.alloc (.cells #[.string ⟨#[38, 113, 117, 111, 116, 59]⟩, .string ⟨#[38, 35, 51, 52, 59]⟩, .string ⟨#[38, 35, 120, 50, 50, 59]⟩, .string ⟨#[38, 97, 112, 111, 115, 59]⟩, .string ⟨#[38, 35, 51, 57, 59]⟩, .string ⟨#[38, 35, 120, 50, 55, 59]⟩] 9)) 9 22 ⟨#[38, 113, 117, 111, 116, 59]⟩ (W.heap.size + 1) 6 (by simp) rfl Try.underlying9 Try.underlying22 Try.underlying5
  obtain ⟨A', c', w', hrun, hbs, hB, hc'⟩ := lo_appendN (W.alloc (.cells #[.string ⟨#[38, 113, 117, 111, 116, 59]⟩, .string ⟨#[38, 35, 51, 52, 59]⟩, .string ⟨#[38, 35, 120, 50, 50, 59]⟩, .string ⟨#[38, 97, 112, 111, 115, 59]⟩, .string ⟨#[38, 35, 51, 57, 59]⟩, .string ⟨#[38, 35, 120, 50, 55, 59]⟩] 9)) ⟨#[38, 113, 117, 111, 116, 59]⟩ (W.heap.size + 1) 6 C [38, 113, 117, 111, 116, 59] (by simp) rfl rfl hC (bs.alloc _) l.length c rfl (by omega)
  obtain ⟨b, o, rfl, _, _⟩ := hbs.form (by simp)
  have Hrun := hide hrun
  have HB : Below W.heap.size W w' := ((Below.refl _ _).alloc (Nat.le_refl _) _).trans (hB.mono (by omega))
  have Hc' := hide hc'
  have HB1 := hide hB
  have hBs : W.heap.size + 1 ≤ w'.heap.size := by have := hB.size; simpa using this
  clear hrun hB hc'
  go_enter Try.func5, Try.ntmps5
  go_wp2_with (first
    | (go_at_call 11; ((with_reducible refine (quotes_any _).mono ?_); rintro e w1 ⟨rfl, rfl⟩))
    | (at_builtin; (with_reducible refine wpList_append_run Hrun.out rfl _ _ rfl rfl rfl rfl ?_))
    | fail)
  refine (iq_of (qe_0 b o l (6 + l.length) c' _ rfl hbs (by omega) Hc'.out)).mono ?_
  rintro e w2 ⟨rfl, hB2⟩
  have cq : w2.cell? ⟨W.heap.size, 0, none⟩ = some (.string ⟨#[38, 113, 117, 111, 116, 59]⟩) := by
    rw [hB2.cell (p := ⟨W.heap.size, 0, none⟩) (show W.heap.size < w'.heap.size by omega), HB1.out.cell (p := ⟨W.heap.size, 0, none⟩) (show W.heap.size < W.heap.size + 1 by omega), World.cell?_alloc_mark]
    rfl
  go_wp2
  go_ret
  exact ⟨rfl, HB.trans (hB2.mono HB.size)⟩
set_option maxHeartbeats 1000000 in
theorem fnQuoteEntity_1 (a : Option Addr) (l : List UInt8) (c : Nat) (W : World) (bs : BS W a l) (h : l.length ≤ 5000) :
    Calls Try.prog 5 #[.int .i64 1, .slice a l.length c] W fun e w' => e = .returned (.bool true) ∧ Below W.heap.size W w' := by
  obtain ⟨C, hC, hconv⟩ := lo_convN (P := Try.prog) (W.alloc (.cells #[.string ⟨#[38, 113, 117, 111, 116, 59]⟩, .string ⟨#[38, 35, 51, 52, 59]⟩, .string ⟨#[38, 35, 120, 50, 50, 59]⟩, .string ⟨#[38, 97, 112, 111, 115, 59]⟩, .string ⟨#[38, 35, 51, 57, 59]⟩, .string ⟨#[38, 35, 120, 50, 55, 59]⟩] 9)) 9 22 ⟨#[38, 35, 51, 52, 59]⟩ (W.heap.size + 1) 5 (by simp) rfl Try.underlying9 Try.underlying22 Try.underlying5
  obtain ⟨A', c', w', hrun, hbs, hB, hc'⟩ := lo_appendN (W.alloc (.cells #[.string ⟨#[38, 113, 117, 111, 116, 59]⟩, .string ⟨#[38, 35, 51, 52, 59]⟩, .string ⟨#[38, 35, 120, 50, 50, 59]⟩, .string ⟨#[38, 97, 112, 111, 115, 59]⟩, .string ⟨#[38, 35, 51, 57, 59]⟩, .string ⟨#[38, 35, 120, 50, 55, 59]⟩] 9)) ⟨#[38, 35, 51, 52, 59]⟩ (W.heap.size + 1) 5 C [38, 35, 51, 52, 59] (by simp) rfl rfl hC (bs.alloc _) l.length c rfl (by omega)
  obtain ⟨b, o, rfl, _, _⟩ := hbs.form (by simp)
  have Hrun := hide hrun
  have HB : Below W.heap.size W w' := ((Below.refl _ _).alloc (Nat.le_refl _) _).trans (hB.mono (by omega))
  have Hc' := hide hc'
  have HB1 := hide hB
  have hBs : W.heap.size + 1 ≤ w'.heap.size := by have := hB.size; simpa using this
  clear hrun hB hc'
  go_enter Try.func5, Try.ntmps5
  go_wp2_with (first
    | (go_at_call 11; ((with_reducible refine (quotes_any _).mono ?_); rintro e w1 ⟨rfl, rfl⟩))
    | (at_builtin; (with_reducible refine wpList_append_run Hrun.out rfl _ _ rfl rfl rfl rfl ?_))
    | fail)
  refine (iq_of (qe_1 b o l (5 + l.length) c' _ rfl hbs (by omega) Hc'.out)).mono ?_
  rintro e w2 ⟨rfl, hB2⟩
  have cq : w2.cell? ⟨W.heap.size, 1, none⟩ = some (.string ⟨#[38, 35, 51, 52, 59]⟩) := by
    rw [hB2.cell (p := ⟨W.heap.size, 1, none⟩) (show W.heap.size < w'.heap.size by omega), HB1.out.cell (p := ⟨W.heap.size, 1, none⟩) (show W.heap.size < W.heap.size + 1 by omega), World.cell?_alloc_mark]
    rfl
  go_wp2
  go_ret
  exact ⟨rfl, HB.trans (hB2.mono HB.size)⟩
set_option maxHeartbeats 1000000 in
theorem fnQuoteEntity_2 (a : Option Addr) (l : List UInt8) (c : Nat) (W : World) (bs : BS W a l) (h : l.length ≤ 5000) :
    Calls Try.prog 5 #[.int .i64 2, .slice a l.length c] W fun e w' => e = .returned (.bool true) ∧ Below W.heap.size W w' := by
  obtain ⟨C, hC, hconv⟩ := lo_convN (P := Try.prog) (W.alloc (.cells #[.string ⟨#[38, 113, 117, 111, 116, 59]⟩, .string ⟨#[38, 35, 51, 52, 59]⟩, .string ⟨#[38, 35, 120, 50, 50, 59]⟩, .string ⟨#[38, 97, 112, 111, 115, 59]⟩, .string ⟨#[38, 35, 51, 57, 59]⟩, .string ⟨#[38, 35, 120, 50, 55, 59]⟩] 9)) 9 22 ⟨#[38, 35, 120, 50, 50, 59]⟩ (W.heap.size + 1) 6 (by simp) rfl Try.underlying9 Try.underlying22 Try.underlying5
  obtain ⟨A', c', w', hrun, hbs, hB, hc'⟩ := lo_appendN (W.alloc (.cells #[.string ⟨#[38, 113, 117, 111, 116, 59]⟩, .string ⟨#[38, 35, 51, 52, 59]⟩, .string ⟨#[38, 35, 120, 50, 50, 59]⟩, .string ⟨#[38, 97, 112, 111, 115, 59]⟩, .string ⟨#[38, 35, 51, 57, 59]⟩, .string ⟨#[38, 35, 120, 50, 55, 59]⟩] 9)) ⟨#[38, 35, 120, 50, 50, 59]⟩ (W.heap.size + 1) 6 C [38, 35, 120, 50, 50, 59] (by simp) rfl rfl hC (bs.alloc _) l.length c rfl (by omega)
  obtain ⟨b, o, rfl, _, _⟩ := hbs.form (by simp)
  have Hrun := hide hrun
  have HB : Below W.heap.size W w' := ((Below.refl _ _).alloc (Nat.le_refl _) _).trans (hB.mono (by omega))
  have Hc' := hide hc'
  have HB1 := hide hB
  have hBs : W.heap.size + 1 ≤ w'.heap.size := by have := hB.size; simpa using this
  clear hrun hB hc'
  go_enter Try.func5, Try.ntmps5
  go_wp2_with (first
    | (go_at_call 11; ((with_reducible refine (quotes_any _).mono ?_); rintro e w1 ⟨rfl, rfl⟩))
    | (at_builtin; (with_reducible refine wpList_append_run Hrun.out rfl _ _ rfl rfl rfl rfl ?_))
    | fail)
  refine (iq_of (qe_2 b o l (6 + l.length) c' _ rfl hbs (by omega) Hc'.out)).mono ?_
  rintro e w2 ⟨rfl, hB2⟩
  have cq : w2.cell? ⟨W.heap.size, 2, none⟩ = some (.string ⟨#[38, 35, 120, 50, 50, 59]⟩) := by
    rw [hB2.cell (p := ⟨W.heap.size, 2, none⟩) (show W.heap.size < w'.heap.size by omega), HB1.out.cell (p := ⟨W.heap.size, 2, none⟩) (show W.heap.size < W.heap.size + 1 by omega), World.cell?_alloc_mark]
    rfl
  go_wp2
  go_ret
  exact ⟨rfl, HB.trans (hB2.mono HB.size)⟩
set_option maxHeartbeats 1000000 in
theorem fnQuoteEntity_3 (a : Option Addr) (l : List UInt8) (c : Nat) (W : World) (bs : BS W a l) (h : l.length ≤ 5000) :
    Calls Try.prog 5 #[.int .i64 3, .slice a l.length c] W fun e w' => e = .returned (.bool true) ∧ Below W.heap.size W w' := by
  obtain ⟨C, hC, hconv⟩ := lo_convN (P := Try.prog) (W.alloc (.cells #[.string ⟨#[38, 113, 117, 111, 116, 59]⟩, .string ⟨#[38, 35, 51, 52, 59]⟩, .string ⟨#[38, 35, 120, 50, 50, 59]⟩, .string ⟨#[38, 97, 112, 111, 115, 59]⟩, .string ⟨#[38, 35, 51, 57, 59]⟩, .string ⟨#[38, 35, 120, 50, 55, 59]⟩] 9)) 9 22 ⟨#[38, 97, 112, 111, 115, 59]⟩ (W.heap.size + 1) 6 (by simp) rfl Try.underlying9 Try.underlying22 Try.underlying5
  obtain ⟨A', c', w', hrun, hbs, hB, hc'⟩ := lo_appendN (W.alloc (.cells #[.string ⟨#[38, 113, 117, 111, 116, 59]⟩, .string ⟨#[38, 35, 51, 52, 59]⟩, .string ⟨#[38, 35, 120, 50, 50, 59]⟩, .string ⟨#[38, 97, 112, 111, 115, 59]⟩, .string ⟨#[38, 35, 51, 57, 59]⟩, .string ⟨#[38, 35, 120, 50, 55, 59]⟩] 9)) ⟨#[38, 97, 112, 111, 115, 59]⟩ (W.heap.size + 1) 6 C [38, 97, 112, 111, 115, 59] (by simp) rfl rfl hC (bs.alloc _) l.length c rfl (by omega)
  obtain ⟨b, o, rfl, _, _⟩ := hbs.form (by simp)
  have Hrun := hide hrun
  have HB : Below W.heap.size W w' := ((Below.refl _ _).alloc (Nat.le_refl _) _).trans (hB.mono (by omega))
  have Hc' := hide hc'
  have HB1 := hide hB
  have hBs : W.heap.size + 1 ≤ w'.heap.size := by have := hB.size; simpa using this
  clear hrun hB hc'
  go_enter Try.func5, Try.ntmps5
  go_wp2_with (first
    | (go_at_call 11; ((with_reducible refine (quotes_any _).mono ?_); rintro e w1 ⟨rfl, rfl⟩))
    | (at_builtin; (with_reducible refine wpList_append_run Hrun.out rfl _ _ rfl rfl rfl rfl ?_))
    | fail)
  refine (iq_of (qe_3 b o l (6 + l.length) c' _ rfl hbs (by omega) Hc'.out)).mono ?_
  rintro e w2 ⟨rfl, hB2⟩
  have cq : w2.cell? ⟨W.heap.size, 3, none⟩ = some (.string ⟨#[38, 97, 112, 111, 115, 59]⟩) := by
    rw [hB2.cell (p := ⟨W.heap.size, 3, none⟩) (show W.heap.size < w'.heap.size by omega), HB1.out.cell (p := ⟨W.heap.size, 3, none⟩) (show W.heap.size < W.heap.size + 1 by omega), World.cell?_alloc_mark]
    rfl
  go_wp2
  go_ret
  exact ⟨rfl, HB.trans (hB2.mono HB.size)⟩
set_option maxHeartbeats 1000000 in
theorem fnQuoteEntity_4 (a : Option Addr) (l : List UInt8) (c : Nat) (W : World) (bs : BS W a l) (h : l.length ≤ 5000) :
    Calls Try.prog 5 #[.int .i64 4, .slice a l.length c] W fun e w' => e = .returned (.bool true) ∧ Below W.heap.size W w' := by
  obtain ⟨C, hC, hconv⟩ := lo_convN (P := Try.prog) (W.alloc (.cells #[.string ⟨#[38, 113, 117, 111, 116, 59]⟩, .string ⟨#[38, 35, 51, 52, 59]⟩, .string ⟨#[38, 35, 120, 50, 50, 59]⟩, .string ⟨#[38, 97, 112, 111, 115, 59]⟩, .string ⟨#[38, 35, 51, 57, 59]⟩, .string ⟨#[38, 35, 120, 50, 55, 59]⟩] 9)) 9 22 ⟨#[38, 35, 51, 57, 59]⟩ (W.heap.size + 1) 5 (by simp) rfl Try.underlying9 Try.underlying22 Try.underlying5
  obtain ⟨A', c', w', hrun, hbs, hB, hc'⟩ := lo_appendN (W.alloc (.cells #[.string ⟨#[38, 113, 117, 111, 116, 59]⟩, .string ⟨#[38, 35, 51, 52, 59]⟩, .string ⟨#[38, 35, 120, 50, 50, 59]⟩, .string ⟨#[38, 97, 112, 111, 115, 59]⟩, .string ⟨#[38, 35, 51, 57, 59]⟩, .string ⟨#[38, 35, 120, 50, 55, 59]⟩] 9)) ⟨#[38, 35, 51, 57, 59]⟩ (W.heap.size + 1) 5 C [38, 35, 51, 57, 59] (by simp) rfl rfl hC (bs.alloc _) l.length c rfl (by omega)
  obtain ⟨b, o, rfl, _, _⟩ := hbs.form (by simp)
  have Hrun := hide hrun
  have HB : Below W.heap.size W w' := ((Below.refl _ _).alloc (Nat.le_refl _) _).trans (hB.mono (by omega))
  have Hc' := hide hc'
  have HB1 := hide hB
  have hBs : W.heap.size + 1 ≤ w'.heap.size := by have := hB.size; simpa using this
  clear hrun hB hc'
  go_enter Try.func5, Try.ntmps5
  go_wp2_with (first
    | (go_at_call 11; ((with_reducible refine (quotes_any _).mono ?_); rintro e w1 ⟨rfl, rfl⟩))
    | (at_builtin; (with_reducible refine wpList_append_run Hrun.out rfl _ _ rfl rfl rfl rfl ?_))
    | fail)
  refine (iq_of (qe_4 b o l (5 + l.length) c' _ rfl hbs (by omega) Hc'.out)).mono ?_
  rintro e w2 ⟨rfl, hB2⟩
  have cq : w2.cell? ⟨W.heap.size, 4, none⟩ = some (.string ⟨#[38, 35, 51, 57, 59]⟩) := by
    rw [hB2.cell (p := ⟨W.heap.size, 4, none⟩) (show W.heap.size < w'.heap.size by omega), HB1.out.cell (p := ⟨W.heap.size, 4, none⟩) (show W.heap.size < W.heap.size + 1 by omega), World.cell?_alloc_mark]
    rfl
  go_wp2
  go_ret
  exact ⟨rfl, HB.trans (hB2.mono HB.size)⟩
set_option maxHeartbeats 1000000 in
theorem fnQuoteEntity_5 (a : Option Addr) (l : List UInt8) (c : Nat) (W : World) (bs : BS W a l) (h : l.length ≤ 5000) :
    Calls Try.prog 5 #[.int .i64 5, .slice a l.length c] W fun e w' => e = .returned (.bool true) ∧ Below W.heap.size W w' := by
  obtain ⟨C, hC, hconv⟩ := lo_convN (P := Try.prog) (W.alloc (.cells #[.string ⟨#[38, 113, 117, 111, 116, 59]⟩, .string ⟨#[38, 35, 51, 52, 59]⟩, .string ⟨#[38, 35, 120, 50, 50, 59]⟩, .string ⟨#[38, 97, 112, 111, 115, 59]⟩, .string ⟨#[38, 35, 51, 57, 59]⟩, .string ⟨#[38, 35, 120, 50, 55, 59]⟩] 9)) 9 22 ⟨#[38, 35, 120, 50, 55, 59]⟩ (W.heap.size + 1) 6 (by simp) rfl Try.underlying9 Try.underlying22 Try.underlying5
  obtain ⟨A', c', w', hrun, hbs, hB, hc'⟩ := lo_appendN (W.alloc (.cells #[.string ⟨#[38, 113, 117, 111, 116, 59]⟩, .string ⟨#[38, 35, 51, 52, 59]⟩, .string ⟨#[38, 35, 120, 50, 50, 59]⟩, .string ⟨#[38, 97, 112, 111, 115, 59]⟩, .string ⟨#[38, 35, 51, 57, 59]⟩, .string ⟨#[38, 35, 120, 50, 55, 59]⟩] 9)) ⟨#[38, 35, 120, 50, 55, 59]⟩ (W.heap.size + 1) 6 C [38, 35, 120, 50, 55, 59] (by simp) rfl rfl hC (bs.alloc _) l.length c rfl (by omega)
  obtain ⟨b, o, rfl, _, _⟩ := hbs.form (by simp)
  have Hrun := hide hrun
  have HB : Below W.heap.size W w' := ((Below.refl _ _).alloc (Nat.le_refl _) _).trans (hB.mono (by omega))
  have Hc' := hide hc'
  have HB1 := hide hB
  have hBs : W.heap.size + 1 ≤ w'.heap.size := by have := hB.size; simpa using this
  clear hrun hB hc'
  go_enter Try.func5, Try.ntmps5
  go_wp2_with (first
    | (go_at_call 11; ((with_reducible refine (quotes_any _).mono ?_); rintro e w1 ⟨rfl, rfl⟩))
    | (at_builtin; (with_reducible refine wpList_append_run Hrun.out rfl _ _ rfl rfl rfl rfl ?_))
    | fail)
  refine (iq_of (qe_5 b o l (6 + l.length) c' _ rfl hbs (by omega) Hc'.out)).mono ?_
  rintro e w2 ⟨rfl, hB2⟩
  have cq : w2.cell? ⟨W.heap.size, 5, none⟩ = some (.string ⟨#[38, 35, 120, 50, 55, 59]⟩) := by
    rw [hB2.cell (p := ⟨W.heap.size, 5, none⟩) (show W.heap.size < w'.heap.size by omega), HB1.out.cell (p := ⟨W.heap.size, 5, none⟩) (show W.heap.size < W.heap.size + 1 by omega), World.cell?_alloc_mark]
    rfl
  go_wp2
  go_ret
  exact ⟨rfl, HB.trans (hB2.mono HB.size)⟩
set_option maxHeartbeats 1000000 in
theorem fnQuoteEntity_walk (x : Int) (a : Option Addr) (l : List UInt8) (c : Nat) (W : World) (wf : (Lit.int .i64 x).wf = true) (bs : BS W a l) :
    Calls Try.prog 5 #[.int .i64 x, .slice a l.length c] W fun e w' => e = .returned (.bool true) ∧ Below W.heap.size W w' := by
  by_cases h1 : 2147483647 < l.length
  · go_enter Try.func5, Try.ntmps5
    go_wp2
    go_ret
    exact ⟨rfl, Below.refl _ _⟩
  by_cases hx0 : x < 0
  · go_enter Try.func5, Try.ntmps5
    go_wp2_with (go_at_call 11; ((with_reducible refine (quotes_any _).mono ?_); rintro e w1 ⟨rfl, rfl⟩))
    go_ret
    exact ⟨rfl, (Below.refl _ _).alloc (Nat.le_refl _) _⟩
  by_cases hx6 : 6 ≤ x
  · go_enter Try.func5, Try.ntmps5
    go_wp2_with (go_at_call 11; ((with_reducible refine (quotes_any _).mono ?_); rintro e w1 ⟨rfl, rfl⟩))
    go_ret
    exact ⟨rfl, (Below.refl _ _).alloc (Nat.le_refl _) _⟩
  by_cases h2 : 5000 < l.length
  · go_enter Try.func5, Try.ntmps5
    go_wp2_with (go_at_call 11; ((with_reducible refine (quotes_any _).mono ?_); rintro e w1 ⟨rfl, rfl⟩))
    go_ret
    exact ⟨rfl, (Below.refl _ _).alloc (Nat.le_refl _) _⟩
  have hx : x = 0 ∨ x = 1 ∨ x = 2 ∨ x = 3 ∨ x = 4 ∨ x = 5 := by omega
  rcases hx with rfl | rfl | rfl | rfl | rfl | rfl
  · exact fnQuoteEntity_0 a l c W bs (by omega)
  · exact fnQuoteEntity_1 a l c W bs (by omega)
  · exact fnQuoteEntity_2 a l c W bs (by omega)
  · exact fnQuoteEntity_3 a l c W bs (by omega)
  · exact fnQuoteEntity_4 a l c W bs (by omega)
  · exact fnQuoteEntity_5 a l c W bs (by omega)
end Go.Proofs.Yteinmabdkkddiaa
