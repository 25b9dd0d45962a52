/- The walk of 'laws.FnParseNumber': it returns true for all three integers and every list of bytes. Condition: the tables of runes as laid. -/
import Derived.Test.YtgalfebplancdaaDoorParseN
import Derived.Test.YtgalfebplancdaaDoorGrpS
import Derived.Test.YtgalfebplancdaaDoorDigit
import Derived.Test.YtgalfebplancdaaDoorJoin
import Derived.Test.YtgalfebplancdaaDoorIsNum
import Derived.Test.YtgalfebplancdaaDoorRows
import Derived.Lib.LaidU8T
import Derived.LaidMore
import Derived.PinnedBridge
namespace Go.Proofs.YtgalfebplancdaaDoor
open Go.RowKit
set_option linter.unusedVariables false

theorem ends_n (A : Option Addr) (l : List UInt8) (c : Nat) (b : Bool) (w : World) (hb : endsB l = b) (h : BS w A l) :
    Calls Tryd.prog 5 #[.slice A l.length c] w fun e w' => e = .returned (.bool b) ∧ w = w' := by
  subst hb
  exact ends_any A l c w h
theorem ends_not_dig {l : List UInt8} {x : UInt8} (h : endsB l = true) (hx : l[0]? = some x) : isDig x = false := by
  rw [endsB_cons hx] at h
  cases hd : isDig x with
  | true => rw [goes_dig hd] at h; cases h
  | false => rfl
theorem iParseN_of {v : Value} {w : World} {m d n : Nat} (h : Calls Tryd.prog 10 #[v, .int .i32 44, .int .i32 46] w (PNRet m d n w)) :
    Calls Tryd.prog 7 #[v, .int .i32 44, .int .i32 46] w (PNRet m d n w) := by
  go_enter Tryd.func7, Tryd.ntmps7
  go_wp2_with (go_at_call 10; refine h.mono ?_; rintro e w1 ⟨rfl, hB⟩)
  go_ret3
  exact ⟨rfl, hB⟩

/-- What the law's test lets by. -/
def PNok (n d s : Int) (l : List UInt8) : Prop := (-1000000000000000 < n ∧ n < 1000000000000000 ∧ 0 ≤ d ∧ d ≤ 6 ∧ 1 ≤ s ∧ s ≤ 6) ∧ 0 ≤ n ∧ l.length ≤ 5000 ∧ endsB l = true ∧ ∀ x, l[0]? = some x → x ≠ 44 ∧ x ≠ 46
set_option maxHeartbeats 1000000 in
theorem fnParseNumber_out (n d s : Int) (a : Option Addr) (l : List UInt8) (c : Nat) (W : World) (bs : BS W a l) (hA : ¬ 2147483647 < l.length) (h : ¬ PNok n d s l) :
    Calls Tryd.prog 3 #[.int .i64 n, .int .i64 d, .int .i64 s, .slice a l.length c] W fun e w' => e = .returned (.bool true) ∧ Below W.heap.size W w' := by
  by_cases hN : -1000000000000000 < n ∧ n < 1000000000000000 ∧ 0 ≤ d ∧ d ≤ 6 ∧ 1 ≤ s ∧ s ≤ 6
  case neg =>
    have HN := hide hN
    clear hN h
    go_enter Tryd.func3, Tryd.ntmps3
    go_wp2_with (go_at_call 4; refine (isNum_no HN.out _).mono ?_; rintro e w1 ⟨rfl, rfl⟩)
    go_ret
    exact ⟨rfl, Below.refl _ _⟩
  have HN := hide hN
  by_cases hn0 : 0 ≤ n
  case neg =>
    clear hN h
    go_enter Tryd.func3, Tryd.ntmps3
    go_wp2_with (go_at_call 4; refine (isNum_yes HN.out.1 HN.out.2.1 HN.out.2.2.1 HN.out.2.2.2.1 HN.out.2.2.2.2.1 HN.out.2.2.2.2.2 _).mono ?_; rintro e w1 ⟨rfl, rfl⟩)
    go_ret
    exact ⟨rfl, Below.refl _ _⟩
  by_cases hl : l.length ≤ 5000
  case neg =>
    clear hN h
    go_enter Tryd.func3, Tryd.ntmps3
    go_wp2_with (go_at_call 4; refine (isNum_yes HN.out.1 HN.out.2.1 HN.out.2.2.1 HN.out.2.2.2.1 HN.out.2.2.2.2.1 HN.out.2.2.2.2.2 _).mono ?_; rintro e w1 ⟨rfl, rfl⟩)
    go_ret
    exact ⟨rfl, Below.refl _ _⟩
  cases hE : endsB l with
  | false =>
    have HE := hide hE
    clear hN h hE
    go_enter Tryd.func3, Tryd.ntmps3
    go_wp2_with (first
      | (go_at_call 4; refine (isNum_yes HN.out.1 HN.out.2.1 HN.out.2.2.1 HN.out.2.2.2.1 HN.out.2.2.2.2.1 HN.out.2.2.2.2.2 _).mono ?_; rintro e w1 ⟨rfl, rfl⟩)
      | (go_at_call 5; refine (ends_n _ _ _ false _ HE.out bs).mono ?_; rintro e w1 ⟨rfl, rfl⟩))
    go_ret
    exact ⟨rfl, Below.refl _ _⟩
  | true =>
    have HE := hide hE
    have hx : ∃ x, l[0]? = some x ∧ (x = 44 ∨ x = 46) := by
      apply Classical.byContradiction
      intro hc
      refine h ⟨hN, hn0, hl, hE, fun x hx => ⟨fun e => hc ⟨x, hx, .inl e⟩, fun e => hc ⟨x, hx, .inr e⟩⟩⟩
    obtain ⟨x, hx, hxx⟩ := hx
    obtain ⟨b, o, rfl, cell⟩ := bs.at_ hx
    rw [Nat.add_zero] at cell
    have hlp : 0 < l.length := (List.getElem?_eq_some_iff.1 hx).1
    clear hN h hE hx
    rcases hxx with rfl | rfl
    all_goals
      go_enter Tryd.func3, Tryd.ntmps3
      go_wp2_with (first
        | (go_at_call 4; refine (isNum_yes HN.out.1 HN.out.2.1 HN.out.2.2.1 HN.out.2.2.2.1 HN.out.2.2.2.2.1 HN.out.2.2.2.2.2 _).mono ?_; rintro e w1 ⟨rfl, rfl⟩)
        | (go_at_call 5; refine (ends_n _ _ _ true _ HE.out bs).mono ?_; rintro e w1 ⟨rfl, rfl⟩))
      go_ret
      exact ⟨rfl, Below.refl _ _⟩

set_option maxHeartbeats 1000000 in
theorem fnParseNumber_in (m d s : Nat) (a : Option Addr) (l : List UInt8) (c : Nat) (W : World) (bs : BS W a l) (hm : m < 1000000000000000) (hd : d ≤ 6) (hs : 0 < s) (hs6 : s ≤ 6) (hl : l.length ≤ 5000) (hE : endsB l = true) (hx : ∀ x, l[0]? = some x → x ≠ 44 ∧ x ≠ 46) (ht : UTabs W) :
    Calls Tryd.prog 3 #[.int .i64 (m : Int), .int .i64 (d : Int), .int .i64 (s : Int), .slice a l.length c] W fun e w' => e = .returned (.bool true) ∧ Below W.heap.size W w' := by
  have hN : -1000000000000000 < (m : Int) ∧ (m : Int) < 1000000000000000 ∧ 0 ≤ (d : Int) ∧ (d : Int) ≤ 6 ∧ 1 ≤ (s : Int) ∧ (s : Int) ≤ 6 := by omega
  have HN := hide hN
  have HE := hide hE
  have Hm := hide hm
  have Ht := hide ht
  have Hst : Hid (Stops l) := hide (fun x h => ⟨ends_not_dig hE h, hx x h⟩)
  have Hle := hide (groupedU_le m d s hs hm)
  have hgl : (groupedU m d s).length ≤ 40 := by have := Hle.out; omega
  have Hgl := hide hgl
  have Hgr : Hid (grouped false m d s = groupedU m d s) := hide rfl
  have Hhd : Hid (0 < (groupedU m d s).length ∧ ∀ x, (groupedU m d s ++ l)[0]? = some x → x ≠ 45) := hide (by
    obtain ⟨y, hy⟩ := grouped_head m d s
    have hy2 : (groupedU m d s)[0]? = some y ∧ y ≠ 45 := by
      rcases hy with ⟨h1, h2⟩ | ⟨h1, h2⟩
      · refine ⟨h1, ?_⟩
        rintro rfl
        exact absurd h2 (by decide)
      · refine ⟨h1, ?_⟩
        rintro rfl
        rcases h2 with h2 | h2 <;> exact absurd h2 (by decide)
    have hp := (List.getElem?_eq_some_iff.1 hy2.1).1
    refine ⟨hp, fun x hx => ?_⟩
    rw [List.getElem?_append_left hp, hy2.1] at hx
    rw [← Option.some.inj hx]
    exact hy2.2)
  obtain ⟨x0, hx0⟩ | hx0 : (∃ x, l[0]? = some x) ∨ l.length = 0 := by
    rcases Nat.eq_zero_or_pos l.length with h | h
    · exact .inr h
    · exact .inl ⟨_, List.getElem?_eq_getElem h⟩
  case' inl =>
    obtain ⟨b, o, rfl, cell⟩ := bs.at_ hx0
    rw [Nat.add_zero] at cell
    have hlp : 0 < l.length := (List.getElem?_eq_some_iff.1 hx0).1
    obtain ⟨h44, h46⟩ := hx x0 hx0
    have q1 : ((x0.toNat : Int) == 44) = false := by rw [beq_eq_false_iff_ne]; intro e; exact h44 (UInt8.toNat_inj.1 (by simp; omega))
    have q2 : ((x0.toNat : Int) == 46) = false := by rw [beq_eq_false_iff_ne]; intro e; exact h46 (UInt8.toNat_inj.1 (by simp; omega))
    clear h44 h46 hx0
  case' inr =>
    have hlp : ¬ 0 < l.length := by omega
    clear hx0
  all_goals
    have hm0 : 0 ≤ (m : Int) := by omega
    clear hN hE hm ht hx hgl
    go_enter Tryd.func3, Tryd.ntmps3
    go_wp2_with (first
      | (go_at_call 4; refine (isNum_yes HN.out.1 HN.out.2.1 HN.out.2.2.1 HN.out.2.2.2.1 HN.out.2.2.2.2.1 HN.out.2.2.2.2.2 _).mono ?_; rintro e w1 ⟨rfl, rfl⟩)
      | (go_at_call 5; refine (ends_n _ _ _ true _ HE.out bs).mono ?_; rintro e w1 ⟨rfl, rfl⟩))
    refine (grouped_pos m d s _ Hm.out hd hs hs6).mono ?_
    rw [Hgr.out]
    rintro e w1 ⟨A1, c1, rfl, own1, hB1⟩
    go_wp2_with fail
    refine (join_two _ _ _ _ _ _ _ _ (HasParts.two rfl _ _ _ _ _ _ _ _ _ rfl rfl own1.bs (bs.below hB1)) (by rw [List.length_append]; have := Hgl.out; omega)).mono ?_
    rintro e w2 ⟨A2, c2, rfl, own2, hB2⟩
    have hB12 := (hB1.alloc hB1.size (.cells #[.slice A1 (groupedU m d s).length c1, .slice _ l.length c] 22)).trans (hB2.mono (by have := hB1.size; simp; omega))
    obtain ⟨g2, rfl⟩ : ∃ g, A2 = some ⟨g, 0, none⟩ := by
      obtain ⟨g, cap, hv, _, _⟩ := own2.2.form (by have := Hhd.out.1; simp; omega)
      injection hv with hA _ _
      exact ⟨g, hA⟩
    have hlec := own2.le.1
    have hb2 := own2.bs
    have hlen2 : (groupedU m d s ++ l).length = (groupedU m d s).length + l.length := by simp
    have Hlen2 := hide hlen2
    have hlen3 : (groupedU m d s ++ l).length ≤ 2147483647 := by rw [hlen2]; have := Hgl.out; omega
    have hlen4 : 0 < (groupedU m d s ++ l).length := by rw [hlen2]; have := Hhd.out.1; omega
    have HR := hide (ReadAt.start m d s)
    rw [hlen2] at hlec hlen3 hlen4
    clear hlen2
    have key := iParseN_of (parseN_any g2 0 ((groupedU m d s).length + l.length) c2 (groupedU m d s) l _ m d w2 rfl Hlen2.out hb2 hlec hlen3 Hm.out hd HR.out Hhd.out.2 Hst.out (Ht.out.below hB12) hlen4)
    have Key := hide key
    clear key hlec hb2 own2
    go_wp2_with fail
    (with_reducible refine Key.out.mono ?_)
    rintro e w3 ⟨rfl, hB3⟩
    go_wp2
    go_ret
    exact ⟨ret_bool (by simp), hB12.trans (hB3.mono hB12.size)⟩
theorem fnParseNumber_walk (n d s : Int) (a : Option Addr) (l : List UInt8) (c : Nat) (W : World) (w1 : (Lit.int .i64 n).wf = true) (w2 : (Lit.int .i64 d).wf = true) (w3 : (Lit.int .i64 s).wf = true) (bs : BS W a l) (ht : UTabs W) :
    Calls Tryd.prog 3 #[.int .i64 n, .int .i64 d, .int .i64 s, .slice a l.length c] W fun e w' => e = .returned (.bool true) ∧ Below W.heap.size W w' := by
  by_cases hA : 2147483647 < l.length
  · go_enter Tryd.func3, Tryd.ntmps3
    go_wp2
    go_ret
    exact ⟨rfl, Below.refl _ _⟩
  by_cases h : PNok n d s l
  · obtain ⟨⟨h1, h2, h3, h4, h5, h6⟩, h7, h8, h9, h10⟩ := h
    obtain ⟨m, rfl⟩ := Int.eq_ofNat_of_zero_le h7
    obtain ⟨d, rfl⟩ := Int.eq_ofNat_of_zero_le h3
    obtain ⟨s, rfl⟩ := Int.eq_ofNat_of_zero_le (show 0 ≤ s by omega)
    exact fnParseNumber_in m d s a l c W bs (by omega) (by omega) (by omega) (by omega) h8 h9 h10 ht
  · exact fnParseNumber_out n d s a l c W bs hA h

def u8ren : Go.Shelf.Ren := ⟨fun n => n, fun | 5 => 5 | 119 => 35 | 138 => 38 | 139 => 39 | n => n, fun | 3 => 0 | 4 => 1 | n => n⟩
theorem fnParseNumber_ut {W : World} (h : laidMetH Tryd.prog Rows.fnParseNumberRow.laid W) : UTabs W := by
  rw [MakeChecks.laidMetH_plain _ _ _ (by kernel_rfl)] at h
  have e1 : (Rows.laid_unicode_utf8_first : DataW Unit) = Lib.firstData := Pinned.utf8First_eq
  have e2 : (Rows.laid_unicode_utf8_acceptRanges : DataW Unit) = Lib.acceptData := by kernel_rfl
  have h3 := Lib.laidMet.reads h (.tail _ (.head _))
  have h4 := Lib.laidMet.reads h (.head _)
  rw [e1] at h3
  rw [e2] at h4
  exact utf8Tabs_of_readsT (ρ := u8ren) ⟨Tryd.underlying5, Tryd.underlying35, Tryd.underlying38, Tryd.underlying39⟩ ⟨by kernel_rfl, by kernel_rfl, by kernel_rfl, by kernel_rfl, by kernel_rfl, by kernel_rfl, by kernel_rfl⟩ h3 h4
end Go.Proofs.YtgalfebplancdaaDoor
