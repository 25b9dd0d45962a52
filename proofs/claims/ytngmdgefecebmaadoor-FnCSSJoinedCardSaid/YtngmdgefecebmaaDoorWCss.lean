/- The thin package's reading of a text of CSS: pieces that are the text, one behind the other, and its end. Conditions: no zero byte, not more than 5000 bytes, io.EOF as laid. -/
import Derived.Test.YtngmdgefecebmaaDoorCon
import Derived.Test.YtngmdgefecebmaaDoorName
import Derived.Test.YtngmdgefecebmaaDoorLx9
namespace Go.Proofs.YtngmdgefecebmaaDoor
open Go.RowKit
set_option linter.unusedVariables false
set_option linter.unusedSimpArgs false

theorem newIn (n : Nat) (l : List UInt8) (w w1 : World) (hn : l.length = n) (hl : n ≤ 2147483647) (hb8 : Blk8 w1 w.heap.size l) (hb : Below w.heap.size w w1) :
    Calls Tryd.prog 8 #[.slice (some ⟨w.heap.size, 0, none⟩) n n] w1 fun e w' => ∃ g A c, e = .returned (.pointer (some ⟨g, 0, none⟩)) ∧ w.heap.size ≤ g ∧ Inp w' g A c l 0 0 ∧ Below w.heap.size w w' := by
  by_cases h0 : 0 < n
  · have own := OwnB.ofBlk (base := w.heap.size) hb8 (Nat.le_refl _) (by simp [maxLen]; omega)
    rw [hn] at own
    exact newInput_some w.heap.size n l w w1 hn h0 hl own hb
  · obtain rfl : n = 0 := by omega
    obtain rfl : l = [] := List.eq_nil_of_length_eq_zero hn
    refine (newInput_none _ 0 w1).mono ?_
    rintro e w' ⟨g, A, c, rfl, h1, h2, h3⟩
    exact ⟨g, A, c, rfl, Nat.le_trans hb.size h1, h2, hb.trans (h3.mono hb.size)⟩
/-- What the reading gives. -/
def CssRet (l : List UInt8) (W : World) (e : Ending) (w' : World) : Prop := ∃ Ao k co ps, e = .returned (.tuple #[.slice Ao k co, .bool true]) ∧ w'.ownsRow W.heap.size 28 6 (.slice Ao k co) k (ps.flatMap pcells) ∧ ps.length = k ∧ k ≤ 5000 ∧ bytesOf ps = l ∧ (∀ d ∈ ps, d.2.2 ≠ [] ∧ Blk8 w' d.2.1 d.2.2) ∧ Below W.heap.size W w'
theorem CssRel.fin {W wr w4 : World} {gl g c p k co : Nat} {A Ao : Option Addr} {l : List UInt8} {ps : List Pce} (h : CssRel W gl g A c l p Ao k co ps wr) (hp : p = l.length) (hl : l.length ≤ 5000) (hg : wr.grownBy w4 (some g)) (n : Nat) :
    CssRet l W (.returned (.tuple #[.slice Ao k co, .bool true])) (w4.drewN n) := by
  obtain ⟨lx, own, pl, kp, cat, dat, apl, apg, apA, apE, gW, bel⟩ := h
  have own2 := row_kept own (hg.trans (grown_drewN w4 n _)) (fun b hb e => apg (hb.trans e.symm))
  refine ⟨Ao, k, co, ps, rfl, own2, pl, by omega, by rw [cat, hp, List.take_length], fun d hd => ?_, bel.grown (hg.trans (grown_drewN w4 n _)) bel.size (fun b e => by injection e with e; omega)⟩
  obtain ⟨h1, h2, h3, h4⟩ := dat d hd
  exact ⟨h1, h2.grown (hg.trans (grown_drewN w4 n _)) (fun e => h3 (by injection e))⟩
theorem eql_case {k : Nat} (h : 1 ≤ k) : ((k : Int) == 0) = false := by rw [beq_eq_false_iff_ne]; omega
set_option maxRecDepth 1000000 in
set_option maxHeartbeats 2000000 in
theorem css_any (A0 : Option Addr) (l : List UInt8) (c0 n : Nat) (w : World) (hn : l.length = n) (h : BS w A0 l) (hl : n ≤ 5000) (hz : ∀ x ∈ l, x ≠ 0) (he : EofIs w) :
    Calls Tryd.prog 5 #[.slice A0 n c0] w (CssRet l w) := by
  have apE : 0 < w.heap.size := by
    obtain ⟨T, te, i, j, a, h1, h2, h3, h4, h5⟩ := he
    exact block_lt_of_cell h5
  have Hn := hide hn
  have Hz := hide hz
  have He := hide he
  clear he hz hn
  go_enter Tryd.func5, Tryd.ntmps5
  go_wp2_with (first
    | (go_at_call 9; (with_reducible refine (icopy _ l _ n _ Hn.out h (by omega)).mono ?_); rintro e w1 ⟨rfl, hb8, hbel⟩)
    | (go_at_call 8; (with_reducible refine (newIn n l w _ Hn.out (by omega) hb8 hbel).mono ?_); rintro e w2 ⟨g, A, c, rfl, hgW, hinp, hbel2⟩)
    | (go_at_call 7; (with_reducible refine (newLexer _ _).mono ?_); rintro e w3 ⟨rfl, rfl⟩))
  have hLn := Lx.new hinp (by have := Hn.out; omega) Hz.out (He.out.below hbel2)
  have hbel3 := hbel2.alloc hbel2.size (.cells #[.pointer (some ⟨g, 0, none⟩)] 45)
  have hrel0 : ∀ ob, ob = Obj.cells #[] 28 → CssRel w w2.heap.size g A c l 0 (some ⟨(w2.alloc (.cells #[.pointer (some ⟨g, 0, none⟩)] 45)).heap.size, 0, none⟩) 0 0 [] ((w2.alloc (.cells #[.pointer (some ⟨g, 0, none⟩)] 45)).alloc ob) := by
    rintro ob rfl
    have hsz := hbel2.size
    have hlt := hinp.lt
    have hadr := hLn.adr
    refine ⟨hLn.below ((Below.refl _ _).alloc (Nat.le_refl _) _), World.ownsRow_made _ #[] 0 (by simp; omega) (by simp [maxLen]) (by simp), rfl, Nat.le_refl _, by simp [bytesOf], fun d hd => by simp at hd, ?_, ?_, ?_, apE, hgW, hbel3.alloc hbel3.size _⟩
    · intro e; simp [blk] at e
    · intro e; simp [blk] at e; omega
    · intro b o e e2
      have := hadr b o e
      simp [blk] at e2 this
      omega
  have Hr0 := hide (hrel0 _ rfl)
  have es : (w2.alloc (.cells #[.pointer (some ⟨g, 0, none⟩)] 45)).heap.size = w2.heap.size + 1 := by simp
  rw [es] at Hr0
  have Hl := hide hl
  clear es hl
  clear hrel0 hLn hbel3 hinp hbel2 hbel hb8 h
  go_loopg [5, 13] n (fun gk ov iv wr => ∃ (p k co : Nat) (Ao : Option Addr) (ps : List Pce), n - p ≤ gk ∧ iv = .int .i64 (k : Int) ∧ ov = .slice Ao k co ∧ Hid (CssRel w w2.heap.size g A c l p Ao k co ps wr))
  case atStart => exact ⟨0, 0, 0, _, [], by omega, by go_num, rfl, Hr0⟩
  case round =>
    obtain ⟨p, k, co, Ao, ps, hgk, rfl, rfl, hr⟩ := hrel
    have hd : decide ((k : Int) < 100000) = true := decide_eq_true (by have := hr.out.kp; have := hr.out.lx.np; have := Hn.out; have := Hl.out; omega)
    have c0 := hr.out.lx.cell
    have hk5 : k ≤ 100000 := by have := of_decide_eq_true hd; omega
    have hlm : l.length ≤ 2147483647 := by have := Hn.out; have := Hl.out; omega
    go_wp2_with (first
      | (go_at_call 10; (with_reducible refine (next_any hr.out.lx).mono ?_); rintro e w4 (⟨hpe, rfl, hL, hg⟩ | ⟨r, q, A2, m, c2, hr1, hr2, hpq, hm, rfl, hbs, hL, hg⟩); all_goals first | (have hpe2 := hpe) | (obtain ⟨rn, rfl⟩ : ∃ rn : Nat, r = (rn : Int) := ⟨r.toNat, by omega⟩; have hrn := eql_case (k := rn) (by omega)))
      | (go_at_call 11; (with_reducible refine (name_any rn _ (by omega)).mono ?_); rintro e w5 ⟨⟨s, rfl⟩, hB3⟩)
      | (go_at_call 9; (with_reducible refine (icopy _ (sel l p q) _ m _ (by rw [sel_len hL.np]; exact hm) (hbs.below hB3) (by have := hL.np; omega)).mono ?_); rintro e w6 ⟨rfl, hD, hB4⟩; obtain ⟨Ao', co', w7, hrun, hr2⟩ := hr.out.next s hpq hk5 hm hL hg hB3 hD hB4; have Hrun := hide hrun; have Hr2 := hide hr2; clear hrun hr2)
      | (at_builtin; (with_reducible refine wpList_append_runG Hrun.out _ _ ?_ rfl rfl ?_ ?_ ?_); (rfl); (rfl); (rfl)))
    · obtain ⟨T, te, ii, jj, aa, hT, hi, hc, hj, he⟩ := hL.eof
      have ce : w4.cell? ⟨0, 0, none⟩ = some (.iface T (.pointer (some aa))) := he
      refine wp_region_quiet_lit (by kernel_rfl) (by kernel_rfl) ?_
      repeat (go_big_quiet_step ((go_at_call 12; exact (lexErr_end T aa (hL.drewN _) he hpe).mono fun _ _ hh => ⟨hh.1, by obtain ⟨m, hm⟩ := hh.2; exact ⟨_, hm.trans (World.drewN_drewN _ _ _)⟩⟩)))
      refine BigFrame.wpQuiet_want rfl fun K hK => quiet_bin _ _ _ _ _ _ _ _ rfl rfl rfl rfl (fun w => run_eql_iface_ptr_same w aa errI hT hi hc hj) (hK _ ?_)
      clear hK K
      go_simp
      repeat (go_big_quiet_step (fail))
      refine wpQuiet_nil ?_
      intro nq
      go_wp2_with fail
      go_ret2
      exact hr.out.fin hpe (by have := Hn.out; have := Hl.out; omega) hg nq
    · go_roundg (n - q)
      case rel => exact ⟨q, k + 1, co', Ao', _, Nat.le_refl _, by go_num, rfl, Hr2⟩
      case measure => (have := hL.np; have := Hn.out; omega)
end Go.Proofs.YtngmdgefecebmaaDoor
