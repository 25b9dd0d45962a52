/- The package's appending of an integer in decimal to a full row of the call's own. Conditions: the integer is one of 64 bits; the row is shorter than 2^31. -/
import Derived.Test.YthepcaeamefjdaaApp
import Derived.Test.YthepcaeamefjdaaLenI
namespace Go.Proofs.Ythepcaeamefjdaa
open Go.RowKit
set_option linter.unusedVariables false

/-- Where the writing from the end stands: m is still to be written into j places, behind them stands out. -/
structure DecJ (n m j : Nat) (out : List UInt8) : Prop where
  st : DecSt n m out
  j : j = if m = 0 then 0 else (dec m).length
theorem DecJ.start {n : Nat} (h : 0 < n) : DecJ n n (dec n).length [] := ⟨by unfold DecSt; rw [if_neg (by omega)]; simp, by rw [if_neg (by omega)]⟩
theorem DecJ.step {n m j : Nat} {out : List UInt8} (hm : 0 < m) (h : DecJ n m (j + 1) out) : DecJ n (m / 10) j (UInt8.ofNat (48 + m % 10) :: out) := by
  refine ⟨h.st.step hm, ?_⟩
  have hj := h.j
  rw [if_neg (by omega)] at hj
  by_cases h1 : m < 10
  · rw [dec_lt h1] at hj
    rw [if_pos (by omega)]
    simpa using hj
  · rw [dec_ge (by omega)] at hj
    rw [if_neg (by omega)]
    simpa using hj
theorem DecJ.pos {n m j : Nat} {out : List UInt8} (hm : 0 < m) (h : DecJ n m j out) : ∃ j', j = j' + 1 := by
  have hj := h.j
  rw [if_neg (by omega)] at hj
  have := dec_ne m
  exact ⟨j - 1, by omega⟩
theorem DecJ.done {n j : Nat} {out : List UInt8} (h : DecJ n 0 j out) : j = 0 ∧ out = dec n := ⟨by have := h.j; simpa using this, h.st.done⟩
theorem DecJ.tot {n m j : Nat} {out : List UInt8} (h : DecJ n m j out) : j + out.length = (dec n).length := by
  have hj := h.j
  have hs := h.st
  unfold DecSt at hs
  split at hs
  · rw [if_pos ‹_›] at hj
    rw [hs, hj]; omega
  · rw [if_neg ‹_›] at hj
    rw [← hs, List.length_append, hj]
theorem set_mid (p : List UInt8) (j : Nat) (out : List UInt8) (d : UInt8) : (p ++ List.replicate (j + 1) 0 ++ out).set (p.length + j) d = p ++ List.replicate j 0 ++ d :: out := by
  rw [List.append_assoc, List.set_append_right _ _ (by omega), Nat.add_sub_cancel_left, List.set_append_left _ _ (by simp), List.append_assoc]
  congr 1
  rw [List.replicate_succ', List.set_append_right _ _ (by simp)]
  simp
theorem get_mid (p : List UInt8) (j : Nat) (out : List UInt8) : (p ++ List.replicate (j + 1) 0 ++ out)[p.length + j]? = some 0 := by
  rw [List.append_assoc, List.getElem?_append_right (by omega), Nat.add_sub_cancel_left, List.getElem?_append_left (by simp)]
  simp

/-- What is returned: a row of the call's own with these bytes. -/
def OwnRetB (base : Nat) (l : List UInt8) (w : World) (e : Ending) (w' : World) : Prop := ∃ A' c', e = .returned (.slice A' l.length c') ∧ OwnB w' base A' l.length c' l ∧ Below base w w'

theorem appInt_zero (base g : Nat) (l : List UInt8) (w : World) (own : OwnB w base (some ⟨g, 0, none⟩) l.length l.length l) (h1 : l.length ≤ 2147483647) (hb : base ≤ w.heap.size) :
    Calls Try.prog 27 #[.slice (some ⟨g, 0, none⟩) l.length l.length, .int .i64 0] w (OwnRetB base (l ++ decI 0) w) := by
  have e0 : decI 0 = [48] := by rw [decI_pos (by decide)]; rw [show (0 : Int).natAbs = 0 from rfl, dec_lt (by decide)]; rfl
  obtain ⟨A2, c2, w2, hrun, own2, hg2, _⟩ := run_append8 (P := Try.prog) 23 23 Try.underlying23 u8_info (own.alloc (.cells #[.int .u8 48] 5)) (BS.lit rfl [48] _ 5 (0, 0) rfl) 1 1 rfl (by omega) (by simp; omega)
  have hbel2 := (own.alloc (.cells #[.int .u8 48] 5)).bel ((Below.refl base w).alloc hb _) hg2 (by simp; omega)
  have Hrun := hide hrun
  clear hrun
  go_enter Try.func27, Try.ntmps27
  go_wp2_with (at_builtin; refine wpList_append_run Hrun.out rfl _ _ rfl rfl rfl rfl ?_)
  go_ret
  exact ⟨A2, c2, by rw [e0]; simp, by rw [e0]; simpa using own2, hbel2⟩

theorem appInt_min (base g : Nat) (l : List UInt8) (w : World) (own : OwnB w base (some ⟨g, 0, none⟩) l.length l.length l) (h1 : l.length ≤ 2147483647) (hb : base ≤ w.heap.size) :
    Calls Try.prog 27 #[.slice (some ⟨g, 0, none⟩) l.length l.length, .int .i64 (-9223372036854775808)] w (OwnRetB base (l ++ decI (-9223372036854775808)) w) := by
  have e0 : decI (-9223372036854775808) = [45, 57, 50, 50, 51, 51, 55, 50, 48, 51, 54, 56, 53, 52, 55, 55, 53, 56, 48, 56] := by
    rw [decI_neg (by decide)]
    rw [show (-9223372036854775808 : Int).natAbs = 9223372036854775808 from rfl]
    repeat (rw [dec_ge (by decide)])
    rw [dec_lt (by decide)]
    decide
  obtain ⟨A2, c2, w2, hrun, own2, hg2⟩ := run_append_str8 (P := Try.prog) 23 9 23 Try.underlying23 Try.underlying9 u8_info own ⟨#[45, 57, 50, 50, 51, 51, 55, 50, 48, 51, 54, 56, 53, 52, 55, 55, 53, 56, 48, 56]⟩ 20 rfl (by omega) hb
  have hbel2 := own.bel (Below.refl base w) hg2 hb
  have Hrun := hide hrun
  clear hrun
  have E0 := hide e0
  clear e0
  go_enter Try.func27, Try.ntmps27
  go_wp2_with (at_builtin; refine wpList_append_runU Hrun.out rfl _ _ rfl rfl rfl rfl ?_)
  go_ret
  exact ⟨A2, c2, by rw [E0.out]; simp, by rw [E0.out]; simpa using own2, hbel2⟩

set_option maxHeartbeats 2000000 in
theorem appInt_pos (base g m : Nat) (l : List UInt8) (w : World) (own : OwnB w base (some ⟨g, 0, none⟩) l.length l.length l) (h1 : l.length ≤ 2147483647) (hb : base ≤ w.heap.size) (h0 : 0 < m) (hm : (m : Int) ≤ 9223372036854775807) :
    Calls Try.prog 27 #[.slice (some ⟨g, 0, none⟩) l.length l.length, .int .i64 (m : Int)] w (OwnRetB base (l ++ dec m) w) := by
  have hL := dec_len20 m (by omega)
  have hLp := dec_ne m
  have hne : ((m : Int) == 0) = false := by rw [beq_eq_false_iff_ne]; omega
  have eI : decI (m : Int) = dec m := by rw [decI_pos (by omega)]; rfl
  obtain ⟨C, w2, hrun, own2, hbel2⟩ := run_append_zeros8 (P := Try.prog) 23 3 23 Try.underlying23 Try.underlying3 u8_info own (dec m).length (by omega) (by omega) hb
  have Hrun := hide hrun
  have EI := hide eI
  have HJ := hide (DecJ.start h0)
  clear hrun eI
  go_enter Try.func27, Try.ntmps27
  go_wp2_with (first
    | (go_at_call 26; refine (lenInt_any (m : Int) _ (by omega) hm).mono ?_; rintro e w1 ⟨rfl, rfl⟩; rw [EI.out])
    | (at_builtin; refine wpList_append_runU Hrun.out rfl _ _ rfl rfl rfl rfl ?_))
  go_loopw [1, 5] (fun t i wr => ∃ (q j : Nat) (out : List UInt8), q ≤ m ∧ t = .int .i64 q ∧ i = .int .i64 ((l.length : Int) + j - 1) ∧ Hid (DecJ m q j out) ∧ Hid (OwnB wr base (some ⟨w.heap.size, 0, none⟩) (l.length + (dec m).length) C (l ++ List.replicate j 0 ++ out)) ∧ Below base w wr)
    (fun t _ _ => (intOf t).toNat)
  case atStart => exact ⟨m, (dec m).length, [], Nat.le_refl _, rfl, by go_num, HJ, hide (by simpa using own2), hbel2.mono hb⟩
  case round =>
    obtain ⟨q, j, out, hq, rfl, rfl, hJ, hown, hbel⟩ := hrel
    by_cases hq0 : 0 < q
    · obtain ⟨j', rfl⟩ := hJ.out.pos hq0
      have ht := hJ.out.tot
      have cell1 := hown.out.cell (get_mid l j' out)
      simp only [show ((0 : UInt8).toNat : Int) = 0 from rfl] at cell1
      have frz1 := hown.out.frozen (l.length + j')
      have hst := hown.out.set (l.length + j') (UInt8.ofNat (48 + q % 10))
      rw [set_mid, digitI (by omega), show (48 + ((q % 10 : Nat) : Int)) = (q : Int) % 10 + 48 by omega] at hst
      have Hst := hide hst
      have Hj2 := hide (hJ.out.step hq0)
      have Hbel2 := hide (hbel.setCell (p := ⟨w.heap.size, l.length + j', none⟩) hb (.int .u8 ((q : Int) % 10 + 48)))
      clear hst hJ hown hbel
      go_wp2
      go_roundw
      case rel => exact ⟨q / 10, j', _, by omega, by go_num, by go_num, Hj2, Hst, Hbel2.out⟩
      case measure => simp [intOf]; omega
    · obtain rfl : q = 0 := by omega
      obtain ⟨rfl, hout⟩ := hJ.out.done
      have hf := hown.out
      rw [hout] at hf
      simp only [List.replicate_zero, List.append_nil] at hf
      have Hf := hide hf
      clear hf hJ hown hout
      go_wp2
      go_ret
      exact ⟨_, C, by rw [List.length_append]; rfl, by rw [List.length_append]; exact Hf.out, hbel⟩

set_option maxHeartbeats 2000000 in
theorem appInt_neg (base g m : Nat) (l : List UInt8) (w : World) (own : OwnB w base (some ⟨g, 0, none⟩) l.length l.length l) (h1 : l.length ≤ 2147483647) (hb : base ≤ w.heap.size) (h0 : 0 < m) (hm : (m : Int) ≤ 9223372036854775807) :
    Calls Try.prog 27 #[.slice (some ⟨g, 0, none⟩) l.length l.length, .int .i64 (-(m : Int))] w (OwnRetB base (l ++ 45 :: dec m) w) := by
  have hL := dec_len20 m (by omega)
  have hLp := dec_ne m
  have hne : ((-(m : Int)) == 0) = false := by rw [beq_eq_false_iff_ne]; omega
  have hne2 : ((-(m : Int)) == -9223372036854775808) = false := by rw [beq_eq_false_iff_ne]; omega
  have eI : decI (-(m : Int)) = 45 :: dec m := by rw [decI_neg (by omega), Int.natAbs_neg]; rfl
  have eL : (decI (-(m : Int))).length = (dec m).length + 1 := by rw [eI]; rfl
  obtain ⟨C, w2, hrun, own2, hbel2⟩ := run_append_zeros8 (P := Try.prog) 23 3 23 Try.underlying23 Try.underlying3 u8_info own ((dec m).length + 1) (by omega) (by omega) hb
  have hcell0 := own2.cell (i := l.length) (d := 0) (by rw [List.getElem?_append_right (Nat.le_refl _), Nat.sub_self]; simp)
  simp only [show ((0 : UInt8).toNat : Int) = 0 from rfl] at hcell0
  have frz0 := own2.frozen l.length
  have own3 := own2.set l.length 45
  rw [List.set_append_right _ _ (Nat.le_refl _), Nat.sub_self, List.replicate_succ, List.set_cons_zero] at own3
  simp only [show ((45 : UInt8).toNat : Int) = 45 from rfl] at own3
  have own4 : OwnB (w2.setCell ⟨w.heap.size, l.length, none⟩ (.int .u8 45)) base (some ⟨w.heap.size, 0, none⟩) (l.length + ((dec m).length + 1)) C ((l ++ [45]) ++ List.replicate (dec m).length 0 ++ []) := by
    simpa using own3
  have Hown := hide own4
  have Hbel0 := hide ((hbel2.mono hb).setCell (p := ⟨w.heap.size, l.length, none⟩) hb (.int .u8 45))
  have Hrun := hide hrun
  have EL := hide eL
  have HJ := hide (DecJ.start h0)
  have hlp : (l ++ [(45 : UInt8)]).length = l.length + 1 := by simp
  have Hlp := hide hlp
  clear hrun eI own2 own3 own4 hbel2 eL hlp
  go_enter Try.func27, Try.ntmps27
  go_wp2_with (first
    | (go_at_call 26; refine (lenInt_any (-(m : Int)) _ (by omega) (by omega)).mono ?_; rintro e w1 ⟨rfl, rfl⟩; rw [EL.out])
    | (at_builtin; refine wpList_append_runU Hrun.out rfl _ _ rfl rfl rfl rfl ?_))
  clear hcell0 frz0
  go_loopw [1, 5] (fun t i wr => ∃ (q j : Nat) (out : List UInt8), q ≤ m ∧ t = .int .i64 q ∧ i = .int .i64 ((l.length : Int) + 1 + j - 1) ∧ Hid (DecJ m q j out) ∧ Hid (OwnB wr base (some ⟨w.heap.size, 0, none⟩) (l.length + ((dec m).length + 1)) C ((l ++ [45]) ++ List.replicate j 0 ++ out)) ∧ Below base w wr)
    (fun t _ _ => (intOf t).toNat)
  case atStart => exact ⟨m, (dec m).length, [], Nat.le_refl _, by go_num, by go_num, HJ, Hown, Hbel0.out⟩
  case round =>
    obtain ⟨q, j, out, hq, rfl, rfl, hJ, hown, hbel⟩ := hrel
    by_cases hq0 : 0 < q
    · obtain ⟨j', rfl⟩ := hJ.out.pos hq0
      have ht := hJ.out.tot
      have cell1 := hown.out.cell (get_mid (l ++ [45]) j' out)
      simp only [show ((0 : UInt8).toNat : Int) = 0 from rfl] at cell1
      rw [Hlp.out] at cell1
      have frz1 := hown.out.frozen (l.length + 1 + j')
      have hst := hown.out.set ((l ++ [45]).length + j') (UInt8.ofNat (48 + q % 10))
      rw [set_mid, digitI (by omega), show (48 + ((q % 10 : Nat) : Int)) = (q : Int) % 10 + 48 by omega, Hlp.out] at hst
      have Hst := hide hst
      have Hj2 := hide (hJ.out.step hq0)
      have Hbel2 := hide (hbel.setCell (p := ⟨w.heap.size, l.length + 1 + j', none⟩) hb (.int .u8 ((q : Int) % 10 + 48)))
      clear hst hJ hown hbel
      go_wp2
      go_roundw
      case rel => exact ⟨q / 10, j', _, by omega, by go_num, by go_num, Hj2, Hst, Hbel2.out⟩
      case measure => simp [intOf]; omega
    · obtain rfl : q = 0 := by omega
      obtain ⟨rfl, hout⟩ := hJ.out.done
      have hf := hown.out
      rw [hout] at hf
      simp only [List.replicate_zero, List.append_nil] at hf
      have Hf := hide hf
      clear hf hJ hown hout
      go_wp2
      go_ret
      have e : l ++ 45 :: dec m = (l ++ [45]) ++ dec m := by simp
      have e2 : (l ++ [45] ++ dec m).length = l.length + ((dec m).length + 1) := by simp
      exact ⟨_, C, by rw [List.length_append, List.length_cons]; rfl, by rw [e, e2]; exact Hf.out, hbel⟩

theorem appInt_any (base g : Nat) (n : Int) (l : List UInt8) (w : World) (own : OwnB w base (some ⟨g, 0, none⟩) l.length l.length l) (h1 : l.length ≤ 2147483647) (hb : base ≤ w.heap.size) (hn1 : -9223372036854775808 ≤ n) (hn2 : n ≤ 9223372036854775807) :
    Calls Try.prog 27 #[.slice (some ⟨g, 0, none⟩) l.length l.length, .int .i64 n] w (OwnRetB base (l ++ decI n) w) := by
  by_cases h0 : n = 0
  · subst h0
    exact appInt_zero base g l w own h1 hb
  by_cases hm : n = -9223372036854775808
  · subst hm
    exact appInt_min base g l w own h1 hb
  by_cases hneg : n < 0
  · have := appInt_neg base g n.natAbs l w own h1 hb (by omega) (by omega)
    rw [show (-(n.natAbs : Int)) = n by omega] at this
    rw [decI_neg hneg]
    exact this
  · have := appInt_pos base g n.natAbs l w own h1 hb (by omega) (by omega)
    rw [show ((n.natAbs : Int)) = n by omega] at this
    rw [decI_pos hneg]
    exact this
end Go.Proofs.Ythepcaeamefjdaa
