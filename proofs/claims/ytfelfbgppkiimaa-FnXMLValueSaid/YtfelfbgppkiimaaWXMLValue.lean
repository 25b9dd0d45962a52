/- The walk of 'laws.FnXMLValue': it returns true for every list of bytes. No condition. -/
import Derived.Test.YtfelfbgppkiimaaEscA
import Derived.Test.YtfelfbgppkiimaaUnq
import Derived.Test.YtfelfbgppkiimaaIsV
import Derived.Test.YtfelfbgppkiimaaDecE
import Derived.Test.YtfelfbgppkiimaaSame
namespace Go.Proofs.Ytfelfbgppkiimaa
open Go.RowKit
set_option linter.unusedVariables false

theorem escQ_has (q : UInt8) (hq : q = 34 ∨ q = 39) (l : List UInt8) : hasB q (esc (fQ q) l) = false := by
  unfold hasB
  rw [Bool.eq_false_iff, ne_eq, List.contains_iff_mem]
  exact escQ_no q hq l
/-- What is returned. -/
def VRet (q : UInt8) (l : List UInt8) (W : World) (e : Ending) (w' : World) : Prop := ∃ A' c', e = .returned (.slice A' (attr q l).length c') ∧ BS w' A' (attr q l) ∧ (attr q l).length ≤ c' ∧ Below W.heap.size W w'
theorem aT_any (gp g0 : Nat) (l : List UInt8) (X : Option Addr) (w : World) (hcell : w.cell? ⟨gp, 0, none⟩ = some (.slice X 0 0)) (hfr : w.frozen? ⟨gp, 0, none⟩ = false) (bs : BS w (some ⟨g0, 0, none⟩) l) (hne : g0 ≠ gp) (hg0 : g0 < w.heap.size) (h1 : l.length ≤ 500) :
    ∃ q : UInt8, (q = 34 ∨ q = 39) ∧ Calls Try.prog 15 #[.pointer (some ⟨gp, 0, none⟩), .slice (some ⟨g0, 0, none⟩) l.length l.length] w (ATRet gp q l w) := by
  by_cases hq : cnt 39 l < cnt 34 l
  · exact ⟨39, .inr rfl, aT_39 gp g0 l X w hcell hfr bs hne hg0 h1 hq⟩
  · exact ⟨34, .inl rfl, aT_34 gp g0 l X w hcell hfr bs hne hg0 h1 hq⟩
set_option maxHeartbeats 1000000 in
theorem iXMLValue_any (a : Option Addr) (l : List UInt8) (c : Nat) (W : World) (bs : BS W a l) (h1 : l.length ≤ 500) :
    Calls Try.prog 11 #[.slice a l.length c] W fun e w' => ∃ q : UInt8, (q = 34 ∨ q = 39) ∧ VRet q l W e w' := by
  go_enter Try.func11, Try.ntmps11
  go_wp2_with fail
  refine (iCopyB a l c W bs (by omega)).mono ?_
  rintro e w1 ⟨rfl, hb, hcell, hfr, hsz, hB⟩
  obtain ⟨q, hq, hcall⟩ := aT_any (W.heap.size + 1) (W.heap.size + 2) l _ w1 hcell hfr hb (by omega) hsz h1
  have Hcall := @hide _ hcall
  have Hq := hide hq
  clear hcall hq
  go_wp2_with fail
  refine (Hcall.out).mono ?_
  rintro e w2 ⟨A', c', rfl, hb2, hc2, hg⟩
  go_wp2
  go_ret
  exact ⟨q, Hq.out, A', c', rfl, hb2, hc2, hB.grown hg hB.size (fun k hk => by injection hk with hk; omega)⟩
theorem uq_any (q : UInt8) (hq : q = 34 ∨ q = 39) (A : Option Addr) (l : List UInt8) (n c : Nat) (w : World) (hn : (attr q l).length = n) (h : BS w A (attr q l)) (h1 : n ≤ 2147483647) (hc : n ≤ c) :
    Calls Try.prog 10 #[.slice A n c] w (UqRet (q.toNat : Int) (esc (fQ q) l) w) := by
  rcases hq with rfl | rfl
  · exact uq_34 A (esc (fQ 34) l) _ n c w rfl hn h h1 hc
  · exact uq_39 A (esc (fQ 39) l) _ n c w rfl hn h h1 hc

set_option maxHeartbeats 1000000 in
theorem fnXMLValue_walk (a : Option Addr) (l : List UInt8) (c : Nat) (W : World) (bs : BS W a l) :
    Calls Try.prog 4 #[.slice a l.length c] W fun e w' => e = .returned (.bool true) ∧ Below W.heap.size W w' := by
  by_cases h1 : 2147483647 < l.length
  · go_enter Try.func4, Try.ntmps4
    go_wp2
    go_ret
    exact ⟨rfl, Below.refl _ _⟩
  cases hv : isV l with
  | false =>
    have Hv := hide hv
    clear hv
    go_enter Try.func4, Try.ntmps4
    go_wp2_with fail
    refine (isV_any _ l _ false _ Hv.out bs (by omega)).mono ?_
    rintro e w2 ⟨rfl, rfl⟩
    go_wp2
    go_ret
    exact ⟨rfl, Below.refl _ _⟩
  | true =>
    obtain ⟨h0, h5, h38⟩ := isV_true hv
    have H38 := hide h38
    have Hv := hide hv
    clear hv h38
    cases hl : hasB 60 l with
    | true =>
      have Hl := hide hl
      clear hl
      go_enter Try.func4, Try.ntmps4
      go_wp2_with fail
      refine (isV_any _ l _ true _ Hv.out bs (by omega)).mono ?_
      rintro e w2 ⟨rfl, rfl⟩
      go_wp2_with fail
      refine (has_n _ l _ _ 60 _ true _ rfl rfl Hl.out bs (by omega)).mono ?_
      rintro e w2 ⟨rfl, rfl⟩
      go_wp2
      go_ret
      exact ⟨rfl, Below.refl _ _⟩
    | false =>
      have Hl := hide hl
      clear hl
      go_enter Try.func4, Try.ntmps4
      go_wp2_with fail
      refine (isV_any _ l _ true _ Hv.out bs (by omega)).mono ?_
      rintro e w2 ⟨rfl, rfl⟩
      go_wp2_with fail
      refine (has_n _ l _ _ 60 _ false _ rfl rfl Hl.out bs (by omega)).mono ?_
      rintro e w2 ⟨rfl, rfl⟩
      go_wp2_with fail
      refine (iXMLValue_any _ l _ _ bs h5).mono ?_
      rintro e w1 ⟨q, hq, A', c', rfl, hb, hc', hB⟩
      have hal := attr_len q l
      have hcn := cnt_le q l l.length
      rw [List.take_length] at hcn
      have hbs1 := bs.below hB
      have Hq := hide hq
      have hex := extQ_len q l
      have hq0 : ((q.toNat : Int) != 0) = true := by rcases hq with rfl | rfl <;> rfl
      have hq256 := q.toNat_lt
      have hel : (esc (fQ q) l).length ≤ 2147483647 := by omega
      have hal2 : (attr q l).length ≤ 2147483647 := by omega
      have Hd := hide (dec_escQ q hq l H38.out)
      have Hh := hide (escQ_has q hq l)
      clear hq hal hcn hex
      generalize hn : (attr q l).length = n at *
      have Hn := hide hn
      clear hn
      go_wp2_with fail
      refine (uq_any q Hq.out A' l n c' _ Hn.out hb hal2 hc').mono ?_
      rintro e w2 ⟨A1, c1, k, rfl, hb1, hc1, rfl⟩
      go_wp2_with fail
      refine (has_n _ (esc (fQ q) l) _ _ q _ false _ rfl rfl Hh.out (hb1.drewN k) hel).mono ?_
      rintro e w3 ⟨rfl, rfl⟩
      go_wp2_with fail
      refine (decE_any A1 (esc (fQ q) l) c1 _ _ (hb1.drewN k) rfl hel hc1).mono ?_
      rintro e w3 ⟨A3, c3, rfl, hb3, hB3⟩
      rw [Hd.out] at hb3
      simp only [Hd.out]
      go_wp2_with fail
      refine (same_n _ _ l l _ _ _ _ true _ (by simp) rfl rfl hb3 ((hbs1.drewN k).below hB3)).mono ?_
      rintro e w4 ⟨rfl, rfl⟩
      go_wp2
      go_ret
      exact ⟨rfl, (below_drewN hB k).trans (hB3.mono hB.size)⟩
end Go.Proofs.Ytfelfbgppkiimaa
