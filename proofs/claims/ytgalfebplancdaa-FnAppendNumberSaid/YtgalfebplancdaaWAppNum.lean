/- The walk of 'laws.FnAppendNumber': it returns true for every list of bytes and all three integers. No condition. -/
import Derived.Test.YtgalfebplancdaaAppNum
import Derived.Test.YtgalfebplancdaaCopy
import Derived.Test.YtgalfebplancdaaSame
import Derived.Test.YtgalfebplancdaaJoin
namespace Go.Proofs.Ytgalfebplancdaa
open Go.RowKit
set_option linter.unusedVariables false

def isNum (n d s : Int) : Bool := decide (-1000000000000000 < n) && decide (n < 1000000000000000) && decide (0 ≤ d) && decide (d ≤ 6) && decide (1 ≤ s) && decide (s ≤ 6)
theorem isNum_yes {n d s : Int} (h1 : -1000000000000000 < n) (h2 : n < 1000000000000000) (h3 : 0 ≤ d) (h4 : d ≤ 6) (h5 : 1 ≤ s) (h6 : s ≤ 6) (w : World) :
    Calls Try.prog 4 #[.int .i64 n, .int .i64 d, .int .i64 s] w fun e w' => e = .returned (.bool true) ∧ w = w' := by
  go_enter Try.func4, Try.ntmps4
  go_wp2
  go_ret
  exact ⟨rfl, rfl⟩
theorem isNum_no {n d s : Int} (h : ¬ (-1000000000000000 < n ∧ n < 1000000000000000 ∧ 0 ≤ d ∧ d ≤ 6 ∧ 1 ≤ s ∧ s ≤ 6)) (w : World) :
    Calls Try.prog 4 #[.int .i64 n, .int .i64 d, .int .i64 s] w fun e w' => e = .returned (.bool false) ∧ w = w' := by
  by_cases h1 : -1000000000000000 < n
  case neg =>
    clear h
    go_enter Try.func4, Try.ntmps4
    go_wp2
    go_ret
    exact ⟨rfl, rfl⟩
  by_cases h2 : n < 1000000000000000
  case neg =>
    clear h
    go_enter Try.func4, Try.ntmps4
    go_wp2
    go_ret
    exact ⟨rfl, rfl⟩
  by_cases h3 : 0 ≤ d
  case neg =>
    clear h
    go_enter Try.func4, Try.ntmps4
    go_wp2
    go_ret
    exact ⟨rfl, rfl⟩
  by_cases h4 : d ≤ 6
  case neg =>
    clear h
    go_enter Try.func4, Try.ntmps4
    go_wp2
    go_ret
    exact ⟨rfl, rfl⟩
  by_cases h5 : 1 ≤ s
  case neg =>
    clear h
    go_enter Try.func4, Try.ntmps4
    go_wp2
    go_ret
    exact ⟨rfl, rfl⟩
  have h6 : ¬ s ≤ 6 := fun e => h ⟨h1, h2, h3, h4, h5, e⟩
  clear h
  go_enter Try.func4, Try.ntmps4
  go_wp2
  go_ret
  exact ⟨rfl, rfl⟩
/-- The text of a number of either sign. -/
def groupedI (n : Int) (d size : Nat) : List UInt8 := grouped (decide (n < 0)) n.natAbs d size
theorem groupedI_len (n : Int) (d size : Nat) (hs : 0 < size) (hd : d ≤ 6) (h1 : -1000000000000000 < n) (h2 : n < 1000000000000000) : (groupedI n d size).length ≤ 40 := by
  have := groupedU_le n.natAbs d size hs (by omega)
  unfold groupedI grouped
  split <;> simp <;> omega
theorem groupedS_any (n : Int) (d size : Nat) (w : World) (h1 : -1000000000000000 < n) (h2 : n < 1000000000000000) (hd : d ≤ 6) (hs : 0 < size) (hs6 : size ≤ 6) :
    Calls Try.prog 5 #[.int .i64 n, .int .i64 (d : Int), .int .i64 (size : Int), .int .u8 44, .int .u8 46] w (OwnRet (groupedI n d size) w) := by
  by_cases hn : n < 0
  · have := grouped_neg n.natAbs d size w (by omega) hd hs hs6 (by omega)
    rw [show (-(n.natAbs : Int)) = n by omega] at this
    unfold groupedI
    rw [decide_eq_true hn]
    exact this
  · have := grouped_pos n.natAbs d size w (by omega) hd hs hs6
    rw [show ((n.natAbs : Int)) = n by omega] at this
    unfold groupedI
    rw [decide_eq_false hn]
    exact this
theorem appNum_any (base g : Nat) (n : Int) (d size : Nat) (l : List UInt8) (w : World) (own : OwnB w base (some ⟨g, 0, none⟩) l.length l.length l) (h : l.length ≤ 2147483647) (hb : base ≤ w.heap.size) (h1 : -1000000000000000 < n) (h2 : n < 1000000000000000) (hd : d ≤ 6) (hs : 0 < size) (hs6 : size ≤ 6) :
    Calls Try.prog 9 #[.slice (some ⟨g, 0, none⟩) l.length l.length, .int .i64 n, .int .i64 (d : Int), .int .i64 (size : Int), .int .i32 44, .int .i32 46] w (OwnRetB base (l ++ groupedI n d size) w) := by
  by_cases hn : n < 0
  · unfold groupedI
    rw [decide_eq_true hn]
    obtain ⟨m, rfl⟩ : ∃ m : Nat, n = -(m : Int) := ⟨n.natAbs, by omega⟩
    rw [Int.natAbs_neg, Int.natAbs_natCast]
    by_cases h0 : d = 0
    · subst h0
      exact appNum_neg0 base g m size l w own h hb (by omega) hs hs6 (by omega)
    · by_cases hD : d < (dec m).length
      · exact appNum_negIn base g m size d hd l w own h hb (by omega) hs hs6 (by omega) hD (by omega)
      · exact appNum_negOut base g m size d hd l w own h hb (by omega) hs hs6 (by omega) hD (by omega)
  · unfold groupedI
    rw [decide_eq_false hn]
    obtain ⟨m, rfl⟩ := Int.eq_ofNat_of_zero_le (show 0 ≤ n by omega)
    rw [Int.natAbs_natCast]
    by_cases h0 : d = 0
    · subst h0
      exact appNum_pos0 base g m size l w own h hb (by omega) hs hs6
    · by_cases hD : d < (dec m).length
      · exact appNum_posIn base g m size d hd l w own h hb (by omega) hs hs6 (by omega) hD
      · exact appNum_posOut base g m size d hd l w own h hb (by omega) hs hs6 (by omega) hD
theorem iAppNum_any (a : Option Addr) (n : Int) (d size : Nat) (l : List UInt8) (c : Nat) (w : World) (bs : BS w a l) (h : l.length ≤ 2147483647) (h1 : -1000000000000000 < n) (h2 : n < 1000000000000000) (hd : d ≤ 6) (hs : 0 < size) (hs6 : size ≤ 6) :
    Calls Try.prog 7 #[.slice a l.length c, .int .i64 n, .int .i64 (d : Int), .int .i64 (size : Int), .int .i32 44, .int .i32 46] w (OwnRetB w.heap.size (l ++ groupedI n d size) w) := by
  go_enter Try.func7, Try.ntmps7
  go_wp2_with (first
    | (go_at_call 14; refine (copy_any _ _ _ _ bs h).mono ?_; rintro e w1 ⟨rfl, hb, hB⟩)
    | (go_at_call 9; refine (appNum_any w.heap.size _ _ _ _ _ _ (OwnB.of_blk hb (Nat.le_refl _) rfl (by omega)) h hB.size h1 h2 hd hs hs6).mono ?_; rintro e w2 ⟨A', c', rfl, own, hB2⟩)
    | go_in)
  go_ret
  exact ⟨A', c', by simp, by simpa using own, hB.trans hB2⟩

set_option maxHeartbeats 1000000 in
theorem fnAppendNumber_walk (a : Option Addr) (l : List UInt8) (c : Nat) (n d s : Int) (W : World) (bs : BS W a l) (w1 : (Lit.int .i64 n).wf = true) (w2 : (Lit.int .i64 d).wf = true) (w3 : (Lit.int .i64 s).wf = true) :
    Calls Try.prog 3 #[.slice a l.length c, .int .i64 n, .int .i64 d, .int .i64 s] W fun e w' => e = .returned (.bool true) ∧ Below W.heap.size W w' := by
  clear w1 w2 w3
  by_cases hA : 2147483647 < l.length
  · go_enter Try.func3, Try.ntmps3
    go_wp2
    go_ret
    exact ⟨rfl, Below.refl _ _⟩
  by_cases hB : 5000 < l.length
  · go_enter Try.func3, Try.ntmps3
    go_wp2
    go_ret
    exact ⟨rfl, Below.refl _ _⟩
  by_cases hN : -1000000000000000 < n ∧ n < 1000000000000000 ∧ 0 ≤ d ∧ d ≤ 6 ∧ 1 ≤ s ∧ s ≤ 6
  case neg =>
    have HN := hide hN
    clear hN
    go_enter Try.func3, Try.ntmps3
    go_wp2_with (go_at_call 4; refine (isNum_no HN.out _).mono ?_; rintro e w1 ⟨rfl, rfl⟩)
    go_ret
    exact ⟨rfl, Below.refl _ _⟩
  obtain ⟨h1, h2, h3, h4, h5, h6⟩ := hN
  obtain ⟨d, rfl⟩ := Int.eq_ofNat_of_zero_le h3
  obtain ⟨s, rfl⟩ := Int.eq_ofNat_of_zero_le (show 0 ≤ s by omega)
  have hd : d ≤ 6 := by omega
  have hs : 0 < s := by omega
  have hs6 : s ≤ 6 := by omega
  have Hl := hide (groupedI_len n d s hs hd h1 h2)
  have H1 := hide h1
  have H2 := hide h2
  clear h1 h2
  go_enter Try.func3, Try.ntmps3
  go_wp2_with (go_at_call 4; refine (isNum_yes H1.out H2.out (by omega) (by omega) (by omega) (by omega) _).mono ?_; rintro e w1 ⟨rfl, rfl⟩)
  refine (groupedS_any _ _ _ _ H1.out H2.out hd hs hs6).mono ?_
  rintro e w1 ⟨A1, c1, rfl, own1, hB1⟩
  go_wp2_with fail
  refine (iAppNum_any _ _ _ _ _ _ _ (bs.below hB1) (by omega) H1.out H2.out hd hs hs6).mono ?_
  rintro e w2 ⟨A2, c2, rfl, own2, hB2⟩
  go_wp2_with fail
  refine (join_two _ _ _ _ _ _ _ _ (HasParts.two rfl _ _ _ _ _ _ _ _ _ rfl rfl ((bs.below hB1).below hB2) (own1.bs.below hB2)) (by rw [List.length_append]; have := Hl.out; omega)).mono ?_
  rintro e w3 ⟨A3, c3, rfl, own3, hB3⟩
  go_wp2_with fail
  refine (same_n _ _ _ _ _ _ _ _ true _ (by simp) (by simp) (by simp) ((own2.bs.alloc _).below hB3) own3.bs).mono ?_
  rintro e w4 ⟨rfl, rfl⟩
  go_wp2
  go_ret
  exact ⟨rfl, ((hB1.trans (hB2.mono hB1.size)).alloc (by have := hB1.size; have := hB2.size; omega) _).trans (hB3.mono (by have := hB1.size; have := hB2.size; simp; omega))⟩
end Go.Proofs.Ytgalfebplancdaa
