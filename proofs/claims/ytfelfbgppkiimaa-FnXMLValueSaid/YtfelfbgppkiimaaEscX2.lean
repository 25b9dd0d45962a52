/- The package's writing of a section of characters as a text, the rest: the empty text; a text that is left as it is. And the thin package's function. Conditions: as there. -/
import Derived.Test.YtfelfbgppkiimaaEscX
import Derived.Test.YtfelfbgppkiimaaCopy
namespace Go.Proofs.Ytfelfbgppkiimaa
open Go.RowKit
set_option linter.unusedVariables false
set_option linter.unusedSimpArgs false

set_option maxRecDepth 100000 in
set_option maxHeartbeats 2000000 in
theorem xT_nil (gp g0 : Nat) (X : Option Addr) (w : World) (hcell : w.cell? ⟨gp, 0, none⟩ = some (.slice X 0 0)) :
    Calls Try.prog 12 #[.pointer (some ⟨gp, 0, none⟩), .slice (some ⟨g0, 0, none⟩) 0 0] w (XTRet gp [] w) := by
  have Hrun0 := hide (fun (D B : Option Addr) (n c1 c2 : Nat) => run_put0 w.drew D B n c1 c2)
  have HrunH := hide (fun (w' : World) => run_hi8 (P := Try.prog) (A := X) 22 Try.underlying22 (by kernel_rfl) 0 0 0 0 rfl (Nat.le_refl _) .i64 w')
  go_enter Try.func12, Try.ntmps12
  go_wp2
  go_loop [6, 16] (fun vn vi => vn = .int .i64 0 ∧ vi = .int .i64 0) (fun _ _ => 0)
  case atStart => exact ⟨rfl, rfl⟩
  case round =>
    obtain ⟨rfl, rfl⟩ := hrel
    go_wp2_with ((with_reducible refine wpList_slice_runO (HrunH.out _) _ _ _ ?_ rfl ?_ ?_ ?_ ?_); (rfl); (rfl); (rfl); (rfl))
    go_loop [10, 11, 62] (fun vj vs vi => vj = .int .i64 0 ∧ vs = .int .i64 0 ∧ vi = .int .i64 0) (fun _ _ _ => 0)
    case atStart => exact ⟨rfl, rfl, rfl⟩
    case round =>
      obtain ⟨rfl, rfl, rfl⟩ := hrel
      go_wp2
      go_region_law ((with_reducible refine step_copy_runG (Hrun0.out X (some ⟨g0, 0, none⟩) 0 0 0) _ _ ?_ rfl rfl ?_ ?_ ?_); (rfl); (simp [Act.eval, Act.put]); (simp [Act.eval, Act.put]))
      all_goals
        go_wp2_with ((with_reducible refine wpList_slice_runO (HrunH.out _) _ _ _ ?_ rfl ?_ ?_ ?_ ?_); (rfl); (rfl); (rfl); (rfl))
        go_ret2
        exact ⟨X, 0, rfl, BS.nil _ _, Nat.le_refl _, ⟨rfl, rfl, rfl, Nat.le_refl _, fun _ _ _ => rfl⟩⟩

/-- What is returned where the text is left as it is. -/
def XTNo (g0 : Nat) (l : List UInt8) (w : World) (e : Ending) (w' : World) : Prop := e = .returned (.tuple #[.slice (some ⟨g0, 0, none⟩) l.length l.length, .bool false]) ∧ w = w'
set_option maxRecDepth 100000 in
set_option maxHeartbeats 2000000 in
theorem xT_no (gp g0 : Nat) (l : List UInt8) (w : World) (bs : BS w (some ⟨g0, 0, none⟩) l) (h1 : l.length ≤ 500) (hx : 12 < extX l) :
    Calls Try.prog 12 #[.pointer (some ⟨gp, 0, none⟩), .slice (some ⟨g0, 0, none⟩) l.length l.length] w (XTNo g0 l w) := by
  have Bs := hide bs
  have Hx := hide hx
  clear bs hx
  go_enter Try.func12, Try.ntmps12
  go_wp2
  go_loop [6, 16] (fun vn vi => ∃ k y : Nat, k ≤ l.length ∧ vn = .int .i64 (y : Int) ∧ vi = .int .i64 (k : Int) ∧ y ≤ 12 ∧ Hid (extX (l.take k) = y)) (fun _ vi => l.length - (intOf vi).toNat)
  case atStart => exact ⟨0, 0, Nat.zero_le _, rfl, rfl, by omega, hide rfl⟩
  case round =>
    obtain ⟨k, y, hk, rfl, rfl, hy, hky⟩ := hrel
    by_cases hlt : k < l.length
    · obtain ⟨d, hd⟩ : ∃ x, l[k]? = some x := ⟨_, List.getElem?_eq_getElem hlt⟩
      obtain ⟨b1, o1, e1, cell1⟩ := Bs.out.at_ hd
      simp only [Option.some.injEq, Addr.mk.injEq, and_true] at e1
      obtain ⟨rfl, rfl⟩ := e1
      rw [Nat.zero_add] at cell1
      have hnx := extX_next hd
      rw [hky.out] at hnx
      by_cases h60 : d = 60
      · have t1 : ((d.toNat : Int) == 60) = true := by rw [h60]; rfl
        rw [if_pos h60] at hnx
        have Hnx := hide hnx
        clear hd hnx h60
        by_cases hy2 : y + 3 ≤ 12
        · go_wp2
          go_round
          case rel => exact ⟨k + 1, y + 3, by omega, by go_num, by go_num, by omega, Hnx⟩
          case measure => simp [intOf]; omega
        · go_wp2
          go_ret2
          exact ⟨rfl, rfl⟩
      · have t1 : ((d.toNat : Int) == 60) = false := by rw [beq_eq_false_iff_ne]; intro e; exact h60 (UInt8.toNat_inj.1 (by simp; omega))
        rw [if_neg h60] at hnx
        by_cases h38 : d = 38
        · have t2 : ((d.toNat : Int) == 38) = true := by rw [h38]; rfl
          rw [if_pos h38] at hnx
          have Hnx := hide hnx
          clear hd hnx h60 h38
          by_cases hy2 : y + 4 ≤ 12
          · go_wp2
            go_round
            case rel => exact ⟨k + 1, y + 4, by omega, by go_num, by go_num, by omega, Hnx⟩
            case measure => simp [intOf]; omega
          · go_wp2
            go_ret2
            exact ⟨rfl, rfl⟩
        · have t2 : ((d.toNat : Int) == 38) = false := by rw [beq_eq_false_iff_ne]; intro e; exact h38 (UInt8.toNat_inj.1 (by simp; omega))
          rw [if_neg h38] at hnx
          have Hnx := hide hnx
          clear hd hnx h60 h38
          go_wp2
          go_round
          case rel => exact ⟨k + 1, y, by omega, rfl, by go_num, by omega, Hnx⟩
          case measure => simp [intOf]; omega
    · exfalso
      have := hky.out
      rw [List.take_of_length_le (by omega)] at this
      have := Hx.out
      omega

theorem iCopy_any (A : Option Addr) (l : List UInt8) (c : Nat) (w : World) (h : BS w A l) (hl : l.length ≤ 2147483647) :
    Calls Try.prog 13 #[.slice A l.length c] w fun e w' =>
      e = .returned (.slice (some ⟨w.heap.size, 0, none⟩) l.length l.length) ∧ Blk8 w' w.heap.size l ∧ Below w.heap.size w w' := by
  go_enter Try.func13, Try.ntmps13
  go_wp2_with (go_at_call 18; (with_reducible refine (copy_any _ _ _ _ h hl).mono ?_); rintro e w1 ⟨rfl, hb, hB⟩)
  go_ret
  exact ⟨rfl, hb, hB⟩
/-- The world in which an empty buffer lies behind a pointer. -/
abbrev bufW (w : World) : World := (w.alloc (.cells #[] 5)).alloc (.cells #[.slice (some ⟨w.heap.size, 0, none⟩) 0 0] 22)
/-- What is known behind the copy. -/
def CopyRet (l : List UInt8) (W : World) (e : Ending) (w' : World) : Prop :=
  e = .returned (.slice (some ⟨W.heap.size + 2, 0, none⟩) l.length l.length) ∧ BS w' (some ⟨W.heap.size + 2, 0, none⟩) l ∧ w'.cell? ⟨W.heap.size + 1, 0, none⟩ = some (.slice (some ⟨W.heap.size, 0, none⟩) 0 0) ∧ w'.frozen? ⟨W.heap.size + 1, 0, none⟩ = false ∧ W.heap.size + 2 < w'.heap.size ∧ Below W.heap.size W w'
theorem iCopyB (a : Option Addr) (l : List UInt8) (c : Nat) (W : World) (bs : BS W a l) (hl : l.length ≤ 2147483647) :
    Calls Try.prog 13 #[.slice a l.length c] (bufW W) (CopyRet l W) := by
  refine (iCopy_any a l c (bufW W) ((bs.alloc _).alloc _) hl).mono ?_
  rintro e w' ⟨rfl, hb, hB⟩
  have hsz : (bufW W).heap.size = W.heap.size + 2 := by simp [bufW]
  rw [hsz] at hb hB
  have hc : (bufW W).cell? ⟨W.heap.size + 1, 0, none⟩ = some (.slice (some ⟨W.heap.size, 0, none⟩) 0 0) := by
    have := World.cell?_alloc_mark (W.alloc (.cells #[] 5)) #[.slice (some ⟨W.heap.size, 0, none⟩) 0 0] 22 (0, 0) 0
    rw [show (W.alloc (.cells #[] 5)).heap.size = W.heap.size + 1 by simp] at this
    exact this
  have hf : (bufW W).frozen? ⟨W.heap.size + 1, 0, none⟩ = false := by
    have := World.frozen?_alloc_at (w := W.alloc (.cells #[] 5)) #[.slice (some ⟨W.heap.size, 0, none⟩) 0 0] 22 (W.heap.size + 1) 0 (by simp)
    exact this
  refine ⟨by rw [hsz], hb.all, ?_, ?_, hb.lt, ?_⟩
  · rw [hB.cell (p := ⟨W.heap.size + 1, 0, none⟩) (show W.heap.size + 1 < W.heap.size + 2 by omega)]
    exact hc
  · rw [hB.frozen (p := ⟨W.heap.size + 1, 0, none⟩) (show W.heap.size + 1 < W.heap.size + 2 by omega)]
    exact hf
  · exact (((Below.refl _ _).alloc (Nat.le_refl _) _).alloc (by simp) _).trans (hB.mono (by omega))
/-- What is returned. -/
def XRet (l : List UInt8) (W : World) (e : Ending) (w' : World) : Prop := ∃ A' c', e = .returned (.tuple #[.slice A' (esc fX l).length c', .bool true]) ∧ BS w' A' (esc fX l) ∧ (esc fX l).length ≤ c' ∧ Below W.heap.size W w'
def XRetNo (l : List UInt8) (W : World) (e : Ending) (w' : World) : Prop := ∃ A', e = .returned (.tuple #[.slice A' l.length l.length, .bool false]) ∧ BS w' A' l ∧ Below W.heap.size W w'
theorem xT_any (gp g0 : Nat) (l : List UInt8) (X : Option Addr) (w : World) (hcell : w.cell? ⟨gp, 0, none⟩ = some (.slice X 0 0)) (hfr : w.frozen? ⟨gp, 0, none⟩ = false) (bs : BS w (some ⟨g0, 0, none⟩) l) (hne : g0 ≠ gp) (hg0 : g0 < w.heap.size) (h1 : l.length ≤ 500) (hx : extX l ≤ 12) :
    Calls Try.prog 12 #[.pointer (some ⟨gp, 0, none⟩), .slice (some ⟨g0, 0, none⟩) l.length l.length] w (XTRet gp l w) := by
  rcases Nat.eq_zero_or_pos l.length with h0 | h0
  · obtain rfl : l = [] := List.eq_nil_of_length_eq_zero h0
    exact xT_nil gp g0 X w hcell
  · exact xT_yes gp g0 l X w hcell hfr bs hne hg0 h1 hx h0

set_option maxHeartbeats 1000000 in
theorem iXMLText_yes (a : Option Addr) (l : List UInt8) (c : Nat) (W : World) (bs : BS W a l) (h1 : l.length ≤ 500) (hx : extX l ≤ 12) :
    Calls Try.prog 5 #[.slice a l.length c] W (XRet l W) := by
  go_enter Try.func5, Try.ntmps5
  go_wp2_with fail
  refine (iCopyB a l c W bs (by omega)).mono ?_
  rintro e w1 ⟨rfl, hb, hcell, hfr, hsz, hB⟩
  go_wp2_with fail
  refine (xT_any (W.heap.size + 1) (W.heap.size + 2) l _ w1 hcell hfr hb (by omega) hsz h1 hx).mono ?_
  rintro e w2 ⟨A', c', rfl, hb2, hc2, hg⟩
  go_wp2
  go_ret2
  exact ⟨A', c', rfl, hb2, hc2, hB.grown hg hB.size (fun k hk => by injection hk with hk; omega)⟩
set_option maxHeartbeats 1000000 in
theorem iXMLText_no (a : Option Addr) (l : List UInt8) (c : Nat) (W : World) (bs : BS W a l) (h1 : l.length ≤ 500) (hx : 12 < extX l) :
    Calls Try.prog 5 #[.slice a l.length c] W (XRetNo l W) := by
  go_enter Try.func5, Try.ntmps5
  go_wp2_with fail
  refine (iCopyB a l c W bs (by omega)).mono ?_
  rintro e w1 ⟨rfl, hb, hcell, hfr, hsz, hB⟩
  go_wp2_with fail
  refine (xT_no (W.heap.size + 1) (W.heap.size + 2) l w1 hb h1 hx).mono ?_
  rintro e w2 ⟨rfl, rfl⟩
  go_wp2
  go_ret2
  exact ⟨_, rfl, hb, hB⟩
end Go.Proofs.Ytfelfbgppkiimaa
