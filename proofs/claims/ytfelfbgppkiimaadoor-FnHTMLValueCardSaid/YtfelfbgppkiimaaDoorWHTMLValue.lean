/- The walk of 'laws.FnHTMLValue': it returns true for every list of bytes and every two bools. Condition: the table's cells. -/
import Derived.Test.YtfelfbgppkiimaaDoorEscH1
import Derived.Test.YtfelfbgppkiimaaDoorEscH2
import Derived.Test.YtfelfbgppkiimaaDoorEscH3
import Derived.Test.YtfelfbgppkiimaaDoorEscH4
import Derived.Test.YtfelfbgppkiimaaDoorBare
namespace Go.Proofs.YtfelfbgppkiimaaDoor
open Go.RowKit
set_option linter.unusedVariables false

/-- What is returned: the text itself, or the text between quotation marks. -/
def HRet (gp g0 : Nat) (l : List UInt8) (must : Bool) (w : World) (e : Ending) (w' : World) : Prop :=
  (l.all noSp = true ∧ must = false ∧ BareRet g0 l w e w') ∨ (∃ q : UInt8, (q = 34 ∨ q = 39) ∧ cnt q l ≤ cnt 34 l ∧ cnt q l ≤ cnt 39 l ∧ ATRet gp q l w e w')

theorem hAny_34 (gp g0 : Nat) (l : List UInt8) (X : Option Addr) (must : Bool) (w : World) (hcell : w.cell? ⟨gp, 0, none⟩ = some (.slice X 0 0)) (hfr : w.frozen? ⟨gp, 0, none⟩ = false) (bs : BS w (some ⟨g0, 0, none⟩) l) (hne : g0 ≠ gp) (hg0 : g0 < w.heap.size) (h1 : l.length ≤ 500) (ht : CtTab w) :
    Calls Tryd.prog 13 #[.pointer (some ⟨gp, 0, none⟩), .slice (some ⟨g0, 0, none⟩) l.length l.length, .int .u8 34, .bool must] w (HRet gp g0 l must w) := by
  cases must <;> cases hU : l.all noSp
  · by_cases k0 : cnt 34 l = 0
    · exact (hQ_34_3 gp g0 l X w hcell hfr bs hne hg0 h1 ht hU k0).mono fun e w' h => .inr ⟨34, .inl rfl, by omega, by omega, h⟩
    · by_cases k1 : cnt 39 l < cnt 34 l
      · by_cases k2 : cnt 39 l = 0
        · exact (hT_34_390_3 gp g0 l X w hcell hfr bs hne hg0 h1 ht hU ⟨by omega, k1, k2⟩).mono fun e w' h => .inr ⟨39, .inr rfl, by omega, by omega, h⟩
        · exact (hT_34_39n_3 gp g0 l X w hcell hfr bs hne hg0 h1 ht hU ⟨by omega, k1, by omega⟩).mono fun e w' h => .inr ⟨39, .inr rfl, by omega, by omega, h⟩
      · by_cases k2 : cnt 34 l < cnt 39 l
        · exact (hT_34_34_3s gp g0 l X w hcell hfr bs hne hg0 h1 ht hU ⟨by omega, by omega, k2⟩).mono fun e w' h => .inr ⟨34, .inl rfl, by omega, by omega, h⟩
        · exact (hT_34_34_3e gp g0 l X w hcell hfr bs hne hg0 h1 ht hU ⟨by omega, by omega, by omega⟩).mono fun e w' h => .inr ⟨34, .inl rfl, by omega, by omega, h⟩
  · exact (hB_34 gp g0 l X w hcell hfr bs hne hg0 h1 ht hU trivial).mono fun e w' h => .inl ⟨hU, rfl, h⟩
  · by_cases k0 : cnt 34 l = 0
    · exact (hQ_34_2 gp g0 l X w hcell hfr bs hne hg0 h1 ht hU k0).mono fun e w' h => .inr ⟨34, .inl rfl, by omega, by omega, h⟩
    · by_cases k1 : cnt 39 l < cnt 34 l
      · by_cases k2 : cnt 39 l = 0
        · exact (hT_34_390_2 gp g0 l X w hcell hfr bs hne hg0 h1 ht hU ⟨by omega, k1, k2⟩).mono fun e w' h => .inr ⟨39, .inr rfl, by omega, by omega, h⟩
        · exact (hT_34_39n_2 gp g0 l X w hcell hfr bs hne hg0 h1 ht hU ⟨by omega, k1, by omega⟩).mono fun e w' h => .inr ⟨39, .inr rfl, by omega, by omega, h⟩
      · by_cases k2 : cnt 34 l < cnt 39 l
        · exact (hT_34_34_2s gp g0 l X w hcell hfr bs hne hg0 h1 ht hU ⟨by omega, by omega, k2⟩).mono fun e w' h => .inr ⟨34, .inl rfl, by omega, by omega, h⟩
        · exact (hT_34_34_2e gp g0 l X w hcell hfr bs hne hg0 h1 ht hU ⟨by omega, by omega, by omega⟩).mono fun e w' h => .inr ⟨34, .inl rfl, by omega, by omega, h⟩
  · by_cases k0 : cnt 34 l = 0
    · exact (hQ_34_1 gp g0 l X w hcell hfr bs hne hg0 h1 ht hU k0).mono fun e w' h => .inr ⟨34, .inl rfl, by omega, by omega, h⟩
    · by_cases k1 : cnt 39 l < cnt 34 l
      · by_cases k2 : cnt 39 l = 0
        · exact (hT_34_390_1 gp g0 l X w hcell hfr bs hne hg0 h1 ht hU ⟨by omega, k1, k2⟩).mono fun e w' h => .inr ⟨39, .inr rfl, by omega, by omega, h⟩
        · exact (hT_34_39n_1 gp g0 l X w hcell hfr bs hne hg0 h1 ht hU ⟨by omega, k1, by omega⟩).mono fun e w' h => .inr ⟨39, .inr rfl, by omega, by omega, h⟩
      · by_cases k2 : cnt 34 l < cnt 39 l
        · exact (hT_34_34_1s gp g0 l X w hcell hfr bs hne hg0 h1 ht hU ⟨by omega, by omega, k2⟩).mono fun e w' h => .inr ⟨34, .inl rfl, by omega, by omega, h⟩
        · exact (hT_34_34_1e gp g0 l X w hcell hfr bs hne hg0 h1 ht hU ⟨by omega, by omega, by omega⟩).mono fun e w' h => .inr ⟨34, .inl rfl, by omega, by omega, h⟩
theorem hAny_39 (gp g0 : Nat) (l : List UInt8) (X : Option Addr) (must : Bool) (w : World) (hcell : w.cell? ⟨gp, 0, none⟩ = some (.slice X 0 0)) (hfr : w.frozen? ⟨gp, 0, none⟩ = false) (bs : BS w (some ⟨g0, 0, none⟩) l) (hne : g0 ≠ gp) (hg0 : g0 < w.heap.size) (h1 : l.length ≤ 500) (ht : CtTab w) :
    Calls Tryd.prog 13 #[.pointer (some ⟨gp, 0, none⟩), .slice (some ⟨g0, 0, none⟩) l.length l.length, .int .u8 39, .bool must] w (HRet gp g0 l must w) := by
  cases must <;> cases hU : l.all noSp
  · by_cases k0 : cnt 39 l = 0
    · exact (hQ_39_3 gp g0 l X w hcell hfr bs hne hg0 h1 ht hU k0).mono fun e w' h => .inr ⟨39, .inr rfl, by omega, by omega, h⟩
    · by_cases k1 : cnt 34 l < cnt 39 l
      · by_cases k2 : cnt 34 l = 0
        · exact (hT_39_340_3 gp g0 l X w hcell hfr bs hne hg0 h1 ht hU ⟨by omega, k1, k2⟩).mono fun e w' h => .inr ⟨34, .inl rfl, by omega, by omega, h⟩
        · exact (hT_39_34n_3 gp g0 l X w hcell hfr bs hne hg0 h1 ht hU ⟨by omega, k1, by omega⟩).mono fun e w' h => .inr ⟨34, .inl rfl, by omega, by omega, h⟩
      · by_cases k2 : cnt 39 l < cnt 34 l
        · exact (hT_39_39_3s gp g0 l X w hcell hfr bs hne hg0 h1 ht hU ⟨by omega, by omega, k2⟩).mono fun e w' h => .inr ⟨39, .inr rfl, by omega, by omega, h⟩
        · exact (hT_39_39_3e gp g0 l X w hcell hfr bs hne hg0 h1 ht hU ⟨by omega, by omega, by omega⟩).mono fun e w' h => .inr ⟨39, .inr rfl, by omega, by omega, h⟩
  · exact (hB_39 gp g0 l X w hcell hfr bs hne hg0 h1 ht hU trivial).mono fun e w' h => .inl ⟨hU, rfl, h⟩
  · by_cases k0 : cnt 39 l = 0
    · exact (hQ_39_2 gp g0 l X w hcell hfr bs hne hg0 h1 ht hU k0).mono fun e w' h => .inr ⟨39, .inr rfl, by omega, by omega, h⟩
    · by_cases k1 : cnt 34 l < cnt 39 l
      · by_cases k2 : cnt 34 l = 0
        · exact (hT_39_340_2 gp g0 l X w hcell hfr bs hne hg0 h1 ht hU ⟨by omega, k1, k2⟩).mono fun e w' h => .inr ⟨34, .inl rfl, by omega, by omega, h⟩
        · exact (hT_39_34n_2 gp g0 l X w hcell hfr bs hne hg0 h1 ht hU ⟨by omega, k1, by omega⟩).mono fun e w' h => .inr ⟨34, .inl rfl, by omega, by omega, h⟩
      · by_cases k2 : cnt 39 l < cnt 34 l
        · exact (hT_39_39_2s gp g0 l X w hcell hfr bs hne hg0 h1 ht hU ⟨by omega, by omega, k2⟩).mono fun e w' h => .inr ⟨39, .inr rfl, by omega, by omega, h⟩
        · exact (hT_39_39_2e gp g0 l X w hcell hfr bs hne hg0 h1 ht hU ⟨by omega, by omega, by omega⟩).mono fun e w' h => .inr ⟨39, .inr rfl, by omega, by omega, h⟩
  · by_cases k0 : cnt 39 l = 0
    · exact (hQ_39_1 gp g0 l X w hcell hfr bs hne hg0 h1 ht hU k0).mono fun e w' h => .inr ⟨39, .inr rfl, by omega, by omega, h⟩
    · by_cases k1 : cnt 34 l < cnt 39 l
      · by_cases k2 : cnt 34 l = 0
        · exact (hT_39_340_1 gp g0 l X w hcell hfr bs hne hg0 h1 ht hU ⟨by omega, k1, k2⟩).mono fun e w' h => .inr ⟨34, .inl rfl, by omega, by omega, h⟩
        · exact (hT_39_34n_1 gp g0 l X w hcell hfr bs hne hg0 h1 ht hU ⟨by omega, k1, by omega⟩).mono fun e w' h => .inr ⟨34, .inl rfl, by omega, by omega, h⟩
      · by_cases k2 : cnt 39 l < cnt 34 l
        · exact (hT_39_39_1s gp g0 l X w hcell hfr bs hne hg0 h1 ht hU ⟨by omega, by omega, k2⟩).mono fun e w' h => .inr ⟨39, .inr rfl, by omega, by omega, h⟩
        · exact (hT_39_39_1e gp g0 l X w hcell hfr bs hne hg0 h1 ht hU ⟨by omega, by omega, by omega⟩).mono fun e w' h => .inr ⟨39, .inr rfl, by omega, by omega, h⟩

theorem escQ_has (q : UInt8) (hq : q = 34 ∨ q = 39) (l : List UInt8) : hasB q (esc (fQ q) l) = false := by
  unfold hasB
  rw [Bool.eq_false_iff, ne_eq, List.contains_iff_mem]
  exact escQ_no q hq l
theorem uq_any (q : UInt8) (hq : q = 34 ∨ q = 39) (A : Option Addr) (l : List UInt8) (n c : Nat) (w : World) (hn : (attr q l).length = n) (h : BS w A (attr q l)) (h1 : n ≤ 2147483647) (hc : n ≤ c) :
    Calls Tryd.prog 7 #[.slice A n c] w (UqRet (q.toNat : Int) (esc (fQ q) l) w) := by
  rcases hq with rfl | rfl
  · exact uq_34 A (esc (fQ 34) l) _ n c w rfl hn h h1 hc
  · exact uq_39 A (esc (fQ 39) l) _ n c w rfl hn h h1 hc
/-- What the thin package's function returns. -/
def IRet (l : List UInt8) (must : Bool) (W : World) (e : Ending) (w' : World) : Prop :=
  (∃ A', l.all noSp = true ∧ must = false ∧ e = .returned (.slice A' l.length l.length) ∧ BS w' A' l ∧ Below W.heap.size W w') ∨
  (∃ (q : UInt8) (A' : Option Addr) (c' : Nat), (q = 34 ∨ q = 39) ∧ cnt q l ≤ cnt 34 l ∧ cnt q l ≤ cnt 39 l ∧ e = .returned (.slice A' (attr q l).length c') ∧ BS w' A' (attr q l) ∧ (attr q l).length ≤ c' ∧ Below W.heap.size W w')

set_option maxHeartbeats 1000000 in
theorem iHTML_34 (a : Option Addr) (l : List UInt8) (c : Nat) (must : Bool) (W : World) (bs : BS W a l) (h1 : l.length ≤ 500) (ht : CtTab W) :
    Calls Tryd.prog 5 #[.slice a l.length c, .int .u8 34, .bool must] W (IRet l must W) := by
  have Ht := hide ht
  clear ht
  go_enter Tryd.func5, Tryd.ntmps5
  go_wp2_with fail
  refine (iCopyB a l c W bs (by omega)).mono ?_
  rintro e w1 ⟨rfl, hb, hcell, hfr, hsz, hB⟩
  have Hcall := @hide _ (hAny_34 (W.heap.size + 1) (W.heap.size + 2) l _ must w1 hcell hfr hb (by omega) hsz h1 (Ht.out.below hB))
  go_wp2_with fail
  refine (Hcall.out).mono ?_
  rintro e w2 (⟨hU, hm, rfl, rfl⟩ | ⟨q, hq, hc1, hc2, A', c', rfl, hb2, hc3, hg⟩)
  · have HU := hide hU
    have Hm := hide hm
    clear hU hm
    go_wp2
    go_ret
    exact .inl ⟨_, HU.out, Hm.out, rfl, hb, hB⟩
  · have Hq := hide hq
    clear hq
    go_wp2
    go_ret
    exact .inr ⟨q, A', c', Hq.out, hc1, hc2, rfl, hb2, hc3, hB.grown hg hB.size (fun k hk => by injection hk with hk; omega)⟩

set_option maxHeartbeats 1000000 in
theorem iHTML_39 (a : Option Addr) (l : List UInt8) (c : Nat) (must : Bool) (W : World) (bs : BS W a l) (h1 : l.length ≤ 500) (ht : CtTab W) :
    Calls Tryd.prog 5 #[.slice a l.length c, .int .u8 39, .bool must] W (IRet l must W) := by
  have Ht := hide ht
  clear ht
  go_enter Tryd.func5, Tryd.ntmps5
  go_wp2_with fail
  refine (iCopyB a l c W bs (by omega)).mono ?_
  rintro e w1 ⟨rfl, hb, hcell, hfr, hsz, hB⟩
  have Hcall := @hide _ (hAny_39 (W.heap.size + 1) (W.heap.size + 2) l _ must w1 hcell hfr hb (by omega) hsz h1 (Ht.out.below hB))
  go_wp2_with fail
  refine (Hcall.out).mono ?_
  rintro e w2 (⟨hU, hm, rfl, rfl⟩ | ⟨q, hq, hc1, hc2, A', c', rfl, hb2, hc3, hg⟩)
  · have HU := hide hU
    have Hm := hide hm
    clear hU hm
    go_wp2
    go_ret
    exact .inl ⟨_, HU.out, Hm.out, rfl, hb, hB⟩
  · have Hq := hide hq
    clear hq
    go_wp2
    go_ret
    exact .inr ⟨q, A', c', Hq.out, hc1, hc2, rfl, hb2, hc3, hB.grown hg hB.size (fun k hk => by injection hk with hk; omega)⟩

set_option maxHeartbeats 2000000 in
theorem fnHTMLValue_walk (a : Option Addr) (l : List UInt8) (c : Nat) (single must : Bool) (W : World) (bs : BS W a l) (ht : CtTab W) :
    Calls Tryd.prog 3 #[.slice a l.length c, .bool single, .bool must] W fun e w' => e = .returned (.bool true) ∧ Below W.heap.size W w' := by
  have Ht := hide ht
  clear ht
  by_cases h1 : 2147483647 < l.length
  · go_enter Tryd.func3, Tryd.ntmps3
    go_wp2
    go_ret
    exact ⟨rfl, Below.refl _ _⟩
  cases hv : isV l with
  | false =>
    have Hv := hide hv
    clear hv
    go_enter Tryd.func3, Tryd.ntmps3
    go_wp2_with fail
    refine (isV_any _ l _ false _ Hv.out bs (by omega)).mono ?_
    rintro e w2 ⟨rfl, rfl⟩
    go_wp2
    go_ret
    exact ⟨rfl, Below.refl _ _⟩
  | true =>
   obtain ⟨h0, h5, h38⟩ := isV_true hv
   have H38 := hide h38
   have Hv := hide hv
   clear hv h38
   cases single
   case false =>
    go_enter Tryd.func3, Tryd.ntmps3
    go_wp2_with fail
    refine (isV_any _ l _ true _ Hv.out bs (by omega)).mono ?_
    rintro e w2 ⟨rfl, rfl⟩
    go_wp2_with fail
    refine (quote9_34 _).mono ?_
    rintro e w2 ⟨rfl, rfl⟩
    go_wp2_with fail
    refine (iHTML_34 _ l _ must _ bs h5 Ht.out).mono ?_
    rintro e w1 (⟨A', hU, rfl, rfl, hb, hB⟩ | ⟨q, A', c', hq, hc1, hc2, rfl, hb, hc', hB⟩)
    · have hbs1 := bs.below hB
      have HU := hide hU
      clear hU
      go_wp2_with fail
      refine (uqb_any A' l l.length _ hb h0 (by omega) HU.out).mono ?_
      rintro e w2 ⟨k, rfl, rfl⟩
      go_wp2_with fail
      refine (same_n _ _ l l _ _ _ _ true _ (by simp) rfl rfl (hb.drewN k) (hbs1.drewN k)).mono ?_
      rintro e w3 ⟨rfl, rfl⟩
      go_wp2_with fail
      refine (bare_any A' l l.length _ (hb.drewN k) h0 (by omega) HU.out).mono ?_
      rintro e w3 ⟨rfl, rfl⟩
      go_wp2
      go_ret
      exact ⟨rfl, below_drewN hB k⟩
    · have hal := attr_len q l
      have hbs1 := bs.below hB
      have Hq := hide hq
      have hex := extQ_len q l
      have hq0 : ((q.toNat : Int) == 0) = false := by rcases hq with rfl | rfl <;> rfl
      have hq256 := q.toNat_lt
      have hcn := cnt_le q l l.length
      rw [List.take_length] at hcn
      have hel : (esc (fQ q) l).length ≤ 2147483647 := by omega
      have Hd := hide (dec_escQ q hq l H38.out)
      have Hh := hide (escQ_has q hq l)
      obtain ⟨m, hm⟩ : ∃ m, m = cnt q l := ⟨_, rfl⟩
      obtain ⟨s1, hs1⟩ : ∃ s1, s1 = cnt 34 l := ⟨_, rfl⟩
      obtain ⟨s2, hs2⟩ : ∃ s2, s2 = cnt 39 l := ⟨_, rfl⟩
      rw [← hm] at hal hc1 hc2 hcn
      rw [← hs1] at hc1
      rw [← hs2] at hc2
      have b34 := cnt_le 34 l l.length
      have b39 := cnt_le 39 l l.length
      rw [List.take_length] at b34 b39
      rw [← hs1] at b34
      rw [← hs2] at b39
      have Hs1 := hide hs1
      have Hs2 := hide hs2
      generalize hn : (attr q l).length = n at *
      have Hn := hide hn
      have Hal := hide hal
      have hal2 : n ≤ 2147483647 := by omega
      have hnle : n ≤ l.length + 2 + 4 * m := by omega
      clear hq hal hex hn hs1 hs2 hm
      go_wp2_with fail
      refine (uq_any q Hq.out A' l n c' _ Hn.out hb hal2 hc').mono ?_
      rintro e w2 ⟨A1, c1, k, rfl, hb1, hc1', rfl⟩
      go_wp2_with fail
      refine (has_n _ (esc (fQ q) l) _ _ q _ false _ rfl rfl Hh.out (hb1.drewN k) hel).mono ?_
      rintro e w3 ⟨rfl, rfl⟩
      go_wp2_with fail
      refine (decE_any A1 (esc (fQ q) l) c1 _ _ (hb1.drewN k) rfl hel hc1').mono ?_
      rintro e w3 ⟨A3, c3, rfl, hb3, hB3⟩
      rw [Hd.out] at hb3
      simp only [Hd.out]
      have hbs3 := (hbs1.drewN k).below hB3
      go_wp2_with fail
      refine (same_n _ _ l l _ _ _ _ true _ (by simp) rfl rfl hb3 hbs3).mono ?_
      rintro e w4 ⟨rfl, rfl⟩
      go_wp2_with fail
      refine (times_any _ l _ 34 _ s1 _ rfl Hs1.out.symm hbs3 (by omega)).mono ?_
      rintro e w4 ⟨rfl, rfl⟩
      go_wp2_with fail
      refine (times_any _ l _ 39 _ s2 _ rfl Hs2.out.symm hbs3 (by omega)).mono ?_
      rintro e w4 ⟨rfl, rfl⟩
      go_wp2
      all_goals go_ret
      all_goals exact ⟨ret_bool (by first | (simp; done) | (simp; omega)), (below_drewN hB k).trans (hB3.mono hB.size)⟩

   case true =>
    go_enter Tryd.func3, Tryd.ntmps3
    go_wp2_with fail
    refine (isV_any _ l _ true _ Hv.out bs (by omega)).mono ?_
    rintro e w2 ⟨rfl, rfl⟩
    go_wp2_with fail
    refine (quote9_39 _).mono ?_
    rintro e w2 ⟨rfl, rfl⟩
    go_wp2_with fail
    refine (iHTML_39 _ l _ must _ bs h5 Ht.out).mono ?_
    rintro e w1 (⟨A', hU, rfl, rfl, hb, hB⟩ | ⟨q, A', c', hq, hc1, hc2, rfl, hb, hc', hB⟩)
    · have hbs1 := bs.below hB
      have HU := hide hU
      clear hU
      go_wp2_with fail
      refine (uqb_any A' l l.length _ hb h0 (by omega) HU.out).mono ?_
      rintro e w2 ⟨k, rfl, rfl⟩
      go_wp2_with fail
      refine (same_n _ _ l l _ _ _ _ true _ (by simp) rfl rfl (hb.drewN k) (hbs1.drewN k)).mono ?_
      rintro e w3 ⟨rfl, rfl⟩
      go_wp2_with fail
      refine (bare_any A' l l.length _ (hb.drewN k) h0 (by omega) HU.out).mono ?_
      rintro e w3 ⟨rfl, rfl⟩
      go_wp2
      go_ret
      exact ⟨rfl, below_drewN hB k⟩
    · have hal := attr_len q l
      have hbs1 := bs.below hB
      have Hq := hide hq
      have hex := extQ_len q l
      have hq0 : ((q.toNat : Int) == 0) = false := by rcases hq with rfl | rfl <;> rfl
      have hq256 := q.toNat_lt
      have hcn := cnt_le q l l.length
      rw [List.take_length] at hcn
      have hel : (esc (fQ q) l).length ≤ 2147483647 := by omega
      have Hd := hide (dec_escQ q hq l H38.out)
      have Hh := hide (escQ_has q hq l)
      obtain ⟨m, hm⟩ : ∃ m, m = cnt q l := ⟨_, rfl⟩
      obtain ⟨s1, hs1⟩ : ∃ s1, s1 = cnt 34 l := ⟨_, rfl⟩
      obtain ⟨s2, hs2⟩ : ∃ s2, s2 = cnt 39 l := ⟨_, rfl⟩
      rw [← hm] at hal hc1 hc2 hcn
      rw [← hs1] at hc1
      rw [← hs2] at hc2
      have b34 := cnt_le 34 l l.length
      have b39 := cnt_le 39 l l.length
      rw [List.take_length] at b34 b39
      rw [← hs1] at b34
      rw [← hs2] at b39
      have Hs1 := hide hs1
      have Hs2 := hide hs2
      generalize hn : (attr q l).length = n at *
      have Hn := hide hn
      have Hal := hide hal
      have hal2 : n ≤ 2147483647 := by omega
      have hnle : n ≤ l.length + 2 + 4 * m := by omega
      clear hq hal hex hn hs1 hs2 hm
      go_wp2_with fail
      refine (uq_any q Hq.out A' l n c' _ Hn.out hb hal2 hc').mono ?_
      rintro e w2 ⟨A1, c1, k, rfl, hb1, hc1', rfl⟩
      go_wp2_with fail
      refine (has_n _ (esc (fQ q) l) _ _ q _ false _ rfl rfl Hh.out (hb1.drewN k) hel).mono ?_
      rintro e w3 ⟨rfl, rfl⟩
      go_wp2_with fail
      refine (decE_any A1 (esc (fQ q) l) c1 _ _ (hb1.drewN k) rfl hel hc1').mono ?_
      rintro e w3 ⟨A3, c3, rfl, hb3, hB3⟩
      rw [Hd.out] at hb3
      simp only [Hd.out]
      have hbs3 := (hbs1.drewN k).below hB3
      go_wp2_with fail
      refine (same_n _ _ l l _ _ _ _ true _ (by simp) rfl rfl hb3 hbs3).mono ?_
      rintro e w4 ⟨rfl, rfl⟩
      go_wp2_with fail
      refine (times_any _ l _ 34 _ s1 _ rfl Hs1.out.symm hbs3 (by omega)).mono ?_
      rintro e w4 ⟨rfl, rfl⟩
      go_wp2_with fail
      refine (times_any _ l _ 39 _ s2 _ rfl Hs2.out.symm hbs3 (by omega)).mono ?_
      rintro e w4 ⟨rfl, rfl⟩
      go_wp2
      all_goals go_ret
      all_goals exact ⟨ret_bool (by first | (simp; done) | (simp; omega)), (below_drewN hB k).trans (hB3.mono hB.size)⟩


theorem gCt : Tryd.prog.globalNamed "loop.example/pub-g01476/pub/tdhtml.charTable" = some 0 := by kernel_rfl
theorem tCt : (Tryd.prog.globals[0]?).map (·.type) = some 37 := by kernel_rfl
theorem dCt {H : Type} : (Rows.laid_loop_example_pub_g01476_pub_tdhtml_charTable : DataW H) = .agg ((tabList isSp).map fun z => .lit (.bool z)) := by kernel_rfl
theorem fnHTMLValue_ct {W : World} (h : laidMetH Tryd.prog Rows.fnHTMLValueRow.laid W) : CtTab W := by
  rw [MakeChecks.laidMetH_plain _ _ _ (by kernel_rfl)] at h
  obtain ⟨ps, ⟨g0, t0, cs0, f0, p0, q0, hg0, ht0, hv0, hd0, _, _⟩, _, _⟩ := h
  obtain rfl := Option.some.inj (gCt.symm.trans hg0)
  obtain rfl := Option.some.inj (tCt.symm.trans ht0)
  rw [dCt] at hd0
  exact tabOf_list gCt hv0 Tryd.underlying37 Tryd.underlying4 (by kernel_rfl) (by kernel_rfl) hd0
end Go.Proofs.YtfelfbgppkiimaaDoor
