/- The lexer of CSS, step by step (part 8; printed by gen_css.py). Conditions: as for its first steps. -/
import Derived.Test.YtngmdgefecebmaaDoorLx4
import Derived.Test.YtngmdgefecebmaaDoorLx5
import Derived.Test.YtngmdgefecebmaaDoorLx6
import Derived.Test.YtngmdgefecebmaaDoorLx7
import Derived.Test.YtngmdgefecebmaaDoorRep
import Derived.Test.YtngmdgefecebmaaDoorEf
import Derived.Test.YtngmdgefecebmaaDoorUrl
import Derived.Deep.DeepCutAuto
namespace Go.Proofs.YtngmdgefecebmaaDoor
open Go.RowKit
set_option linter.unusedVariables false
set_option linter.unusedSimpArgs false
section
variable {w w' : World} {gl g c pos start : Nat} {A : Option Addr} {l : List UInt8}
set_option maxHeartbeats 2000000 in
theorem customvariabletoken_eats (h : Lx w gl g A c l pos start) (hlt : pos < l.length) :
    Calls Tryd.prog 25 #[.pointer (some ⟨gl, 0, none⟩)] w (Eats gl g A c l pos start w) := by
  have c0 := h.cell
  have np := h.np
  have hL := h
  have hG := World.grownBy.refl w (some g)
  clear h
  go_enter Tryd.func25, Tryd.ntmps25
  go_wp2_with (first
    | (go_at_call 16; (with_reducible refine (lpeek1 hL (by have := hL.np; first | omega | ((try unfold Seen at *); (try simp only [beq_iff_eq, beq_eq_false_iff_ne, bne_iff_ne, bne_eq_false_iff_eq, ne_eq, Bool.or_eq_true] at *); omega))).mono ?_); rintro e w2 ⟨x1, rfl, hs1, rfl⟩)
    | (go_at_call 40; (with_reducible refine ((two (identtoken_eats hL)).mono ?_)); rintro e w2 (⟨rfl, hL, hg⟩ | ⟨p2, ht2, rfl, hL, hg⟩); all_goals (replace hG := hG.trans hg; have c0 := hL.cell; have hle := hL.np)))
  all_goals go_ret
  all_goals exact ⟨_, _, rfl, hL, hG, fun h => by first | (cases h; done) | rfl | omega, fun h => by first | (cases h; done) | omega⟩
set_option maxRecDepth 100000 in
set_option maxHeartbeats 4000000 in
theorem atkeywordtoken_eats (h : Lx w gl g A c l pos start) (hlt : pos < l.length) :
    Calls Tryd.prog 27 #[.pointer (some ⟨gl, 0, none⟩)] w (Eats gl g A c l pos start w) := by
  have c0 := h.cell
  have np := h.np
  have sp := h.sp
  have hL := h
  have hG := World.grownBy.refl w (some g)
  clear h
  go_enter Tryd.func27, Tryd.ntmps27
  go_wp2_with (first
    | (go_at_call 17; (with_reducible refine (lmove1 hL (by have := hL.np; first | omega | ((try unfold Seen at *); (try simp only [beq_iff_eq, beq_eq_false_iff_ne, bne_iff_ne, bne_eq_false_iff_eq, ne_eq, Bool.or_eq_true] at *); omega))).mono ?_); rintro e w2 ⟨rfl, hL, hg⟩; replace hG := hG.trans hg; have c0 := hL.cell)
    | (go_at_call 40; (with_reducible refine ((two (identtoken_eats hL)).mono ?_)); rintro e w2 (⟨rfl, hL, hg⟩ | ⟨p2, ht2, rfl, hL, hg⟩); all_goals (replace hG := hG.trans hg; have c0 := hL.cell; have hle := hL.np))
    | (go_at_call 17; (with_reducible refine (lback hL (by omega)).mono ?_); rintro e w2 ⟨rfl, hL, hg⟩; replace hG := hG.trans hg; have c0 := hL.cell))
  all_goals (go_ret; exact ⟨_, _, rfl, hL, hG, fun h => by first | (cases h; done) | rfl | omega, fun h => by first | (cases h; done) | omega⟩)
set_option maxRecDepth 100000 in
set_option maxHeartbeats 4000000 in
theorem numeric_eats (h : Lx w gl g A c l pos start) :
    Calls Tryd.prog 23 #[.pointer (some ⟨gl, 0, none⟩)] w (Kind gl g A c l pos start w) := by
  have c0 := h.cell
  have np := h.np
  have sp := h.sp
  have hL := h
  have hG := World.grownBy.refl w (some g)
  clear h
  go_enter Tryd.func23, Tryd.ntmps23
  go_wp2_with (first
    | (go_at_call 38; (with_reducible refine ((two (numbertoken_eats hL)).mono ?_)); rintro e w2 (⟨rfl, hL, hg⟩ | ⟨p2, ht2, rfl, hL, hg⟩); all_goals (replace hG := hG.trans hg; have c0 := hL.cell; have hle := hL.np))
    | (go_at_call 39; (with_reducible refine ((two (byte37 hL)).mono ?_)); rintro e w2 (⟨rfl, hL, hg⟩ | ⟨p2, ht2, rfl, hL, hg⟩); all_goals (replace hG := hG.trans hg; have c0 := hL.cell; have hle := hL.np))
    | (go_at_call 40; (with_reducible refine ((two (identtoken_eats hL)).mono ?_)); rintro e w2 (⟨rfl, hL, hg⟩ | ⟨p2, ht2, rfl, hL, hg⟩); all_goals (replace hG := hG.trans hg; have c0 := hL.cell; have hle := hL.np)))
  all_goals (go_ret; exact ⟨_, _, rfl, ⟨by first | decide | omega, by first | decide | omega⟩, hL, hG, fun h => by first | rfl | omega | (exact absurd h (by decide)), fun h => by first | omega | (exact absurd rfl h)⟩)
theorem ef_n (A B : Option Addr) (s t : List UInt8) (n m c d : Nat) (w : World) (hn : s.length = n) (hm : t.length = m) (hs : BS w A s) (ht : BS w B t) (h1 : n ≤ 2147483647) (h2 : m ≤ 2147483647) :
    Calls Tryd.prog 41 #[.slice A n c, .slice B m d] w (ABool w) := by
  subst hn hm
  exact ef_any A B s t c d w hs ht h1 h2
theorem kind_le {r : Int} {p p3 : Nat} (hz : r = 0 → p3 = p) (hnz : r ≠ 0 → p < p3) : p ≤ p3 := by
  by_cases h : r = 0
  · have := hz h; omega
  · have := hnz h; omega
theorem len3 : ([117, 114, 108] : List UInt8).length = 3 := rfl
set_option maxRecDepth 100000 in
set_option maxHeartbeats 4000000 in
theorem identlike_eats (h : Lx w gl g A c l pos start) :
    Calls Tryd.prog 26 #[.pointer (some ⟨gl, 0, none⟩)] w (Kind gl g A c l pos start w) := by
  have c0 := h.cell
  have np := h.np
  have sp := h.sp
  have hL := h
  have hG := World.grownBy.refl w (some g)
  clear h
  go_enter Tryd.func26, Tryd.ntmps26
  go_upto_region 4 with (first
    | (go_at_call 40; (with_reducible refine ((two (identtoken_eats hL)).mono ?_)); rintro e w2 (⟨rfl, hL, hg⟩ | ⟨p2, ht2, rfl, hL, hg⟩); all_goals (replace hG := hG.trans hg; have c0 := hL.cell; have hle := hL.np))
    | (go_at_call 16; (with_reducible refine (lpeek0 hL (by have := hL.np; first | omega | ((try unfold Seen at *); (try simp only [beq_iff_eq, beq_eq_false_iff_ne, bne_iff_ne, bne_eq_false_iff_eq, ne_eq, Bool.or_eq_true] at *); omega))).mono ?_); rintro e w2 ⟨x0, rfl, hs0, rfl⟩))
  all_goals first
    | (go_ret; exact ⟨_, _, rfl, ⟨by first | decide | omega, by first | decide | omega⟩, hL, hG, fun h => by first | rfl | omega | (exact absurd h (by decide)), fun h => by first | omega | (exact absurd rfl h)⟩)
    | (skip)
  have hp1 : p2 + 1 ≤ l.length := (by have := hL.np; first | omega | ((try unfold Seen at *); (try simp only [beq_iff_eq, beq_eq_false_iff_ne, bne_iff_ne, bne_eq_false_iff_eq, ne_eq, Bool.or_eq_true] at *); omega))
  go_cut [21] from 4 (fun v wx => ∃ b : Bool, v = .bool b ∧ Lx wx gl g A c l p2 start ∧ w.grownBy wx (some g))
  case first =>
    go_wp2_with (first
      | (go_at_call 43; (with_reducible refine (lexeme_cap hL (by have := hL.sp; omega)).mono ?_); rintro e w3 ⟨b0, o0, d0, m0, n3, rfl, hm1, hm2, hbs, hml, rfl⟩; have hbs2 := (hbs.drewN n3).alloc (.cells #[.int .u8 92] 5); have hlit : BS ((w2.drewN n3).alloc (.cells #[.int .u8 92] 5)) (some ⟨w2.heap.size, 0, none⟩) [92] := BS.lit rfl [92] _ 5 (0, 0) rfl)
      | (go_at_call 42; (with_reducible refine (repl_any b0 o0 _ (sel l start p2) m0 d0 _ _ hml hm1 hbs2 hlit hm2).mono ?_); rintro e w4 ⟨A4, k4, c4, m4, rfl, hk4, hb4, hl4, hbel4⟩; have hb5 := hb4.alloc (.cells #[.int .u8 117, .int .u8 114, .int .u8 108] 5); have hlit2 : BS (w4.alloc (.cells #[.int .u8 117, .int .u8 114, .int .u8 108] 5)) (some ⟨w4.heap.size, 0, none⟩) [117, 114, 108] := BS.lit rfl [117, 114, 108] _ 5 (0, 0) rfl; have hk5 : k4 ≤ 2147483647 := by omega)
      | (go_at_call 41; (with_reducible refine (ef_n _ _ m4 [117, 114, 108] k4 3 _ _ _ hl4 len3 hb5 hlit2 hk5 (by decide)).mono ?_); rintro e w5 ⟨⟨r5, rfl⟩, rfl⟩))
    go_meet
    have hB1 := (below_drewN (Below.refl w2.heap.size w2) n3).alloc (Nat.le_refl _) (.cells #[.int .u8 92] 5)
    have hB2 := (hB1.trans (hbel4.mono hB1.size)).alloc (hB1.trans (hbel4.mono hB1.size)).size (.cells #[.int .u8 117, .int .u8 114, .int .u8 108] 5)
    exact ⟨_, rfl, hL.below hB2, hG.trans (grown_of_below hB2 _)⟩
  case rest =>
    obtain ⟨b, rfl, hL, hG⟩ := hcut
    have c0 := hL.cell
    clear hs0
    go_upto_if 21 with fail
    cases b
    case true =>
      go_wp2_with (first
        | (go_at_call 17; (with_reducible refine (lmove1 hL (by have := hL.np; first | omega | ((try unfold Seen at *); (try simp only [beq_iff_eq, beq_eq_false_iff_ne, bne_iff_ne, bne_eq_false_iff_eq, ne_eq, Bool.or_eq_true] at *); omega))).mono ?_); rintro e w2 ⟨rfl, hL, hg⟩; replace hG := hG.trans hg; have c0 := hL.cell))
      all_goals (go_ret; exact ⟨_, _, rfl, ⟨by first | decide | omega, by first | decide | omega⟩, hL, hG, fun h => by first | rfl | omega | (exact absurd h (by decide)), fun h => by first | omega | (exact absurd rfl h)⟩)
    case false =>
      go_wp2_with (first
        | (go_at_call 17; (with_reducible refine (lmove1 hL (by have := hL.np; first | omega | ((try unfold Seen at *); (try simp only [beq_iff_eq, beq_eq_false_iff_ne, bne_iff_ne, bne_eq_false_iff_eq, ne_eq, Bool.or_eq_true] at *); omega))).mono ?_); rintro e w2 ⟨rfl, hL, hg⟩; replace hG := hG.trans hg; have c0 := hL.cell))
      go_loopg [] (l.length) (fun gk wr => ∃ p : Nat, l.length - p ≤ gk ∧ Lx wr gl g A c l p start ∧ w.grownBy wr (some g) ∧ pos < p)
      case atStart => exact ⟨_, by omega, hL, hG, by omega⟩
      case round =>
        obtain ⟨p, hgk, hL, hG, hp⟩ := hrel
        have c0 := hL.cell
        have hlp := hL.np
        go_upto_region 10 with (first
          | (go_at_call 18; (with_reducible refine ((two (whitespace_eats hL)).mono ?_)); rintro e w2 (⟨rfl, hL, hg⟩ | ⟨p2, ht2, rfl, hL, hg⟩); all_goals (replace hG := hG.trans hg; have c0 := hL.cell; have hle := hL.np))
          | (go_at_call 16; (with_reducible refine (lpeek0 hL (by have := hL.np; first | omega | ((try unfold Seen at *); (try simp only [beq_iff_eq, beq_eq_false_iff_ne, bne_iff_ne, bne_eq_false_iff_eq, ne_eq, Bool.or_eq_true] at *); omega))).mono ?_); rintro e w2 ⟨x0, rfl, hs0, rfl⟩))
        rotate_left
        · (go_roundg (l.length - p2); (case rel => exact ⟨_, Nat.le_refl _, hL, hG, by omega⟩); (case measure => omega))
        go_upto_region 10 with fail
        go_cut [3, 44] from 4 (fun xv sv wx => ∃ (y : Int) (b : Bool), xv = .int .u8 y ∧ sv = .bool b ∧ (b = true → p + 1 ≤ l.length) ∧ Lx wx gl g A c l (p) start ∧ w.grownBy wx (some g))
        case first =>
          go_wp2_with fail
          all_goals (go_meet; exact ⟨_, _, rfl, rfl, by first | (intro h; cases h; done) | (intro _; unfold Seen at *; omega) | (intro hh; (try simp at hh); unfold Seen at *; (try simp only [beq_iff_eq, beq_eq_false_iff_ne, bne_iff_ne, bne_eq_false_iff_eq, ne_eq, Bool.or_eq_true] at *); omega), hL, hG⟩)
        case rest =>
          obtain ⟨y, b, rfl, rfl, hb, hL, hG⟩ := hcut
          have c0 := hL.cell
          have hlp := hL.np
          go_upto_if 44 with fail
          go_cut [] from 4 (fun wx => ∃ q : Nat, pos < q ∧ Lx wx gl g A c l q start ∧ w.grownBy wx (some g))
          case first =>
            cases b
            case true =>
              have hb1 := hb rfl
              clear hb
              go_wp2_with (first
                | (go_at_call 22; (with_reducible refine (string_eats hL (by omega)).mono ?_); rintro e w2 ⟨r3, p3, rfl, hr3, hL, hg, hz, hnz⟩; have hp3 := kind_le hz hnz; clear hz hnz; replace hG := hG.trans hg; have c0 := hL.cell)
                | (go_at_call 44; (with_reducible refine (remnantsbadurl_eats hL).mono ?_); rintro e w2 ⟨p4, rfl, hp4, hL, hg⟩; replace hG := hG.trans hg; have c0 := hL.cell))
              all_goals first
                | (go_ret; exact ⟨_, _, rfl, ⟨by first | decide | omega, by first | decide | omega⟩, hL, hG, fun h => by first | rfl | omega | (exact absurd h (by decide)), fun h => by first | omega | (exact absurd rfl h)⟩)
                | (go_meet; exact ⟨_, by omega, hL, hG⟩)
            case false =>
              clear hb
              go_wp2_with (first
                | (go_at_call 45; (with_reducible refine (unquotedurl_eats hL).mono ?_); rintro e w2 ⟨(_ | _), p3, rfl, hp3, hL, hg⟩; all_goals (replace hG := hG.trans hg; have c0 := hL.cell))
                | (go_at_call 18; (with_reducible refine ((two (whitespace_eats hL)).mono ?_)); rintro e w2 (⟨rfl, hL, hg⟩ | ⟨p2, ht2, rfl, hL, hg⟩); all_goals (replace hG := hG.trans hg; have c0 := hL.cell; have hle := hL.np))
                | (go_at_call 44; (with_reducible refine (remnantsbadurl_eats hL).mono ?_); rintro e w2 ⟨p4, rfl, hp4, hL, hg⟩; replace hG := hG.trans hg; have c0 := hL.cell))
              all_goals first
                | (go_ret; exact ⟨_, _, rfl, ⟨by first | decide | omega, by first | decide | omega⟩, hL, hG, fun h => by first | rfl | omega | (exact absurd h (by decide)), fun h => by first | omega | (exact absurd rfl h)⟩)
                | (go_meet; exact ⟨_, by omega, hL, hG⟩)
          case rest =>
            clear hb
            obtain ⟨q, hq, hL, hG⟩ := hcut
            have c0 := hL.cell
            have hlq := hL.np
            go_wp2_with fail
            go_loopg [] (l.length) (fun gk wr => ∃ p : Nat, l.length - p ≤ gk ∧ Lx wr gl g A c l p start ∧ w.grownBy wr (some g) ∧ pos < p)
            case atStart => exact ⟨_, by omega, hL, hG, by omega⟩
            case round =>
              obtain ⟨p, hgk, hL, hG, hp⟩ := hrel
              have c0 := hL.cell
              have hlp := hL.np
              go_upto_region 18 with (first
                | (go_at_call 18; (with_reducible refine ((two (whitespace_eats hL)).mono ?_)); rintro e w2 (⟨rfl, hL, hg⟩ | ⟨p2, ht2, rfl, hL, hg⟩); all_goals (replace hG := hG.trans hg; have c0 := hL.cell; have hle := hL.np)))
              rotate_left
              · (go_roundg (l.length - p2); (case rel => exact ⟨_, Nat.le_refl _, hL, hG, by omega⟩); (case measure => omega))
              go_cut [73] from 4 (fun v wx => ∃ (b : Bool) (q : Nat), v = .bool b ∧ pos < q ∧ Lx wx gl g A c l q start ∧ w.grownBy wx (some g))
              case first =>
                by_cases hy : l[p]? = some 41
                · have Hy := hide hy
                  clear hy
                  have hLd : Lx w2.drew gl g A c l p start := hL.drewN 1
                  replace hG : w.grownBy w2.drew (some g) := hG.trans (grown_drewN _ 1 _)
                  first | (go_region_law (go_simp; go_at_call 39; (with_reducible refine (byte41_yes hLd Hy.out).mono ?_); rintro e w2 ⟨rfl, hL, hg⟩; replace hG := hG.trans hg; have c0 := hL.cell)) | fail
                  all_goals (go_wp2_with fail; go_meet; exact ⟨_, _, rfl, by omega, hL, hG⟩)
                · have Hy := hide hy
                  clear hy
                  obtain ⟨T, te, ii, jj, aa, hT, hi, hc, hj, he⟩ := hL.eof
                  have ce : w2.cell? ⟨0, 0, none⟩ = some (.iface T (.pointer (some aa))) := he
                  by_cases hlt : p < l.length
                  · refine wp_region_quiet_lit (by kernel_rfl) (by kernel_rfl) ?_
                    repeat (go_big_quiet_step (first | (go_at_call 39; exact quiet_left (byte41_no (hL.drewN _) Hy.out)) | (go_at_call 33; exact (ierr_in (hL.drewN _) hlt).mono fun _ _ hh => ⟨hh.1, by obtain ⟨m, hm⟩ := hh.2; exact ⟨_, hm.trans (World.drewN_drewN _ _ _)⟩⟩)))
                    refine BigFrame.wpQuiet_want rfl fun K hK => quiet_bin _ _ _ _ _ _ _ _ rfl rfl rfl rfl (fun w => run_neq_nil_left w _ _ errI) (hK _ ?_)
                    clear hK K
                    go_simp
                    repeat (go_big_quiet_step (fail))
                    refine wpQuiet_nil ?_
                    intro nq
                    go_wp2_with fail
                    go_meet
                    exact ⟨_, _, rfl, by omega, hL.drewN nq, hG.trans (grown_drewN _ nq _)⟩
                  · refine wp_region_quiet_lit (by kernel_rfl) (by kernel_rfl) ?_
                    repeat (go_big_quiet_step (first | (go_at_call 39; exact quiet_left (byte41_no (hL.drewN _) Hy.out)) | (go_at_call 33; exact (ierr_end T aa (hL.drewN _) he (by omega)).mono fun _ _ hh => ⟨hh.1, by obtain ⟨m, hm⟩ := hh.2; exact ⟨_, hm.trans (World.drewN_drewN _ _ _)⟩⟩)))
                    refine BigFrame.wpQuiet_want rfl fun K hK => quiet_bin _ _ _ _ _ _ _ _ rfl rfl rfl rfl (fun w => run_neq_ptr_same w aa errI hT hi hc hj) (hK _ ?_)
                    clear hK K
                    go_simp
                    repeat (go_big_quiet_step (fail))
                    refine wpQuiet_nil ?_
                    intro nq
                    go_wp2_with fail
                    go_meet
                    exact ⟨_, _, rfl, by omega, hL.drewN nq, hG.trans (grown_drewN _ nq _)⟩
              case rest =>
                obtain ⟨b, q, rfl, hq, hL, hG⟩ := hcut
                have c0 := hL.cell
                go_upto_if 73 with fail
                cases b
                all_goals
                  go_wp2_with (first
                    | (go_at_call 44; (with_reducible refine (remnantsbadurl_eats hL).mono ?_); rintro e w2 ⟨p4, rfl, hp4, hL, hg⟩; replace hG := hG.trans hg; have c0 := hL.cell))
                  go_ret; exact ⟨_, _, rfl, ⟨by first | decide | omega, by first | decide | omega⟩, hL, hG, fun h => by first | rfl | omega | (exact absurd h (by decide)), fun h => by first | omega | (exact absurd rfl h)⟩
end
end Go.Proofs.YtngmdgefecebmaaDoor
