/- The walk of 'laws.FnTables': it returns true for every list of bytes and both tables. Condition: the tables' cells. -/
import Derived.Test.YtdklelnllhpbfaaDoorIEnc
import Derived.Test.YtdklelnllhpbfaaDoorEncD
import Derived.Test.YtdklelnllhpbfaaDoorDecI
import Derived.Test.YtdklelnllhpbfaaDoorSame
import Derived.LaidMore
namespace Go.Proofs.YtdklelnllhpbfaaDoor
open Go.RowKit
set_option linter.unusedVariables false

def alnum (c : UInt8) : Bool := (48 ≤ c && c ≤ 57) || (65 ≤ c && c ≤ 90) || (97 ≤ c && c ≤ 122)
/-- The bytes that the table of data URIs has. -/
def dataF (c : UInt8) : Bool := !(alnum c || (36 ≤ c && c ≤ 46 && !(c == 37) && !(c == 38)) || [33, 47, 58, 59, 61, 63, 64, 95, 126].contains c)
/-- The bytes that the table of other URLs has. -/
def urlF (c : UInt8) : Bool := !(alnum c || [33, 39, 40, 41, 42, 45, 46, 95, 126].contains c)
theorem noHex_all {f : UInt8 → Bool} (h : ((List.range 256).all fun i => !isHex (UInt8.ofNat i) || !f (UInt8.ofNat i)) = true) : NoHex f := fun c hc => by
  have := List.all_eq_true.1 h c.toNat (List.mem_range.2 c.toNat_lt)
  rw [UInt8.ofNat_toNat, hc] at this
  simpa using this
theorem noHex_data : NoHex dataF := noHex_all (by decide +kernel)
theorem noHex_url : NoHex urlF := noHex_all (by decide +kernel)
theorem gDt : Tryd.prog.globalNamed "loop.example/pub-g01476/pub/tdparse.DataURIEncodingTable" = some 0 := by kernel_rfl
theorem tDt : (Tryd.prog.globals[0]?).map (·.type) = some 31 := by kernel_rfl
theorem dDt : (Rows.laid_loop_example_pub_g01476_pub_tdparse_DataURIEncodingTable : DataW Unit) = .agg ((tabList dataF).map fun z => .lit (.bool z)) := by kernel_rfl
theorem gUt : Tryd.prog.globalNamed "loop.example/pub-g01476/pub/tdparse.URLEncodingTable" = some 1 := by kernel_rfl
theorem tUt : (Tryd.prog.globals[1]?).map (·.type) = some 31 := by kernel_rfl
theorem dUt : (Rows.laid_loop_example_pub_g01476_pub_tdparse_URLEncodingTable : DataW Unit) = .agg ((tabList urlF).map fun z => .lit (.bool z)) := by kernel_rfl
abbrev DtTab (w : World) : Prop := TabOf 0 dataF w
abbrev UtTab (w : World) : Prop := TabOf 1 urlF w
theorem fnTables_ut {W : World} (h : laidMetH Tryd.prog Rows.fnTablesRow.laid W) : UtTab W := by
  rw [MakeChecks.laidMetH_plain _ _ _ (by kernel_rfl)] at h
  obtain ⟨ps, ⟨g0, t0, cs0, f0, p0, q0, hg0, ht0, hv0, hd0, _, _⟩, _, _⟩ := h
  obtain rfl := Option.some.inj (gUt.symm.trans hg0)
  obtain rfl := Option.some.inj (tUt.symm.trans ht0)
  rw [dUt] at hd0
  exact tabOf_list gUt hv0 Tryd.underlying31 Tryd.underlying4 (by kernel_rfl) (by kernel_rfl) hd0
theorem fnTables_dt {W : World} (h : laidMetH Tryd.prog Rows.fnTablesRow.laid W) : DtTab W := by
  rw [MakeChecks.laidMetH_plain _ _ _ (by kernel_rfl)] at h
  obtain ⟨ps, ⟨g0, t0, cs0, f0, p0, q0, hg0, ht0, hv0, hd0, ⟨g1, t1, cs1, f1, p1, q1, hg1, ht1, hv1, hd1, _, _⟩, _⟩, _, _⟩ := h
  obtain rfl := Option.some.inj (gDt.symm.trans hg1)
  obtain rfl := Option.some.inj (tDt.symm.trans ht1)
  rw [dDt] at hd1
  exact tabOf_list gDt hv1 Tryd.underlying31 Tryd.underlying4 (by kernel_rfl) (by kernel_rfl) hd1

theorem iDecode_any (a : Option Addr) (l : List UInt8) (c n : Nat) (W : World) (hn : l.length = n) (bs : BS W a l) (hno : NoPlus l 0) (h1 : l.length ≤ 2147483647) :
    Calls Tryd.prog 10 #[.slice a n c] W fun e w' => e = .returned (.slice (some ⟨W.heap.size, 0, none⟩) (unesc l).length n) ∧ BS w' (some ⟨W.heap.size, 0, none⟩) (unesc l) ∧ Below W.heap.size W w' := by
  subst hn
  go_enter Tryd.func10, Tryd.ntmps10
  go_wp2_with fail
  refine (copy_any _ _ _ _ bs h1).mono ?_
  rintro e w1 ⟨rfl, hb, hB⟩
  have own := OwnB.ofBlk (base := W.heap.size) hb (Nat.le_refl _) (by unfold maxLen; omega)
  go_wp2_with fail
  refine (decodeI _ _ _ _ _ own hno h1).mono ?_
  rintro e w2 ⟨rfl, own2, hg⟩
  go_wp2
  go_ret
  exact ⟨rfl, own2.bs, hB.grown hg hB.size (fun k hk => by injection hk with hk; omega)⟩
theorem noPlus_enc {f : UInt8 → Bool} {l : List UInt8} (h : f 43 = true ∨ ∀ x ∈ l, x ≠ 43) : NoPlus (enc f l) 0 := fun j x _ hx => enc_plus h x (List.mem_of_getElem? hx)

set_option maxHeartbeats 1000000 in
theorem fnTables_walk (a : Option Addr) (l : List UInt8) (c : Nat) (o : Bool) (W : World) (bs : BS W a l) (hdt : DtTab W) (hut : UtTab W) :
    Calls Tryd.prog 4 #[.slice a l.length c, .bool o] W fun e w' => e = .returned (.bool true) ∧ Below W.heap.size W w' := by
  have Hdt := hide hdt
  have Hut := hide hut
  clear hdt hut
  by_cases h1 : 2147483647 < l.length
  · go_enter Tryd.func4, Tryd.ntmps4
    go_wp2
    go_ret
    exact ⟨rfl, Below.refl _ _⟩
  by_cases h2 : 5000 < l.length
  · go_enter Tryd.func4, Tryd.ntmps4
    go_wp2
    go_ret
    exact ⟨rfl, Below.refl _ _⟩
  have h3 : l.length ≤ 5000 := by omega
  cases o with
  | true =>
    have Hno := hide (noPlus_enc (f := urlF) (l := l) (.inl rfl))
    have Hun := hide (unesc_enc (f := urlF) rfl l)
    have Hle := hide (enc_le urlF l)
    go_enter Tryd.func4, Tryd.ntmps4
    go_wp2_with fail
    refine (iEnc_tab2 _ _ _ urlF _ bs Hut.out noHex_url h3).mono ?_
    rintro e w1 ⟨A1, d1, rfl, hb1, hB1⟩
    go_wp2_with fail
    refine (iDecode_any _ _ _ _ _ rfl hb1 Hno.out (by have := Hle.out; omega)).mono ?_
    rintro e w2 ⟨rfl, hb2, hB2⟩
    rw [Hun.out] at hb2 ⊢
    go_wp2_with fail
    refine (same_n _ _ _ _ _ _ _ _ true _ (by simp) rfl rfl hb2 ((bs.below hB1).below hB2)).mono ?_
    rintro e w3 ⟨rfl, rfl⟩
    go_wp2
    go_ret
    exact ⟨rfl, hB1.trans (hB2.mono hB1.size)⟩
  | false =>
    cases hh : hasB 43 l with
    | true =>
      have H := hide hh
      clear hh
      go_enter Tryd.func4, Tryd.ntmps4
      go_wp2_with fail
      refine (has_n _ _ _ _ 43 _ true _ rfl rfl H.out bs (by omega)).mono ?_
      rintro e w1 ⟨rfl, rfl⟩
      go_wp2
      go_ret
      exact ⟨rfl, Below.refl _ _⟩
    | false =>
      have Hno := hide (noPlus_enc (f := dataF) (l := l) (.inr (fun x hx => by obtain ⟨j, hj⟩ := List.getElem?_of_mem hx; exact has_false hh hj)))
      have Hun := hide (unesc_enc (f := dataF) rfl l)
      have Hle := hide (enc_le dataF l)
      have H := hide hh
      clear hh
      go_enter Tryd.func4, Tryd.ntmps4
      go_wp2_with fail
      refine (has_n _ _ _ _ 43 _ false _ rfl rfl H.out bs (by omega)).mono ?_
      rintro e w0 ⟨rfl, rfl⟩
      go_wp2_with fail
      refine (iEnc_tab1 _ _ _ dataF _ bs Hdt.out noHex_data h3).mono ?_
      rintro e w1 ⟨A1, d1, rfl, hb1, hB1⟩
      go_wp2_with fail
      refine (iDecode_any _ _ _ _ _ rfl hb1 Hno.out (by have := Hle.out; omega)).mono ?_
      rintro e w2 ⟨rfl, hb2, hB2⟩
      rw [Hun.out] at hb2 ⊢
      go_wp2_with fail
      refine (same_n _ _ _ _ _ _ _ _ true _ (by simp) rfl rfl hb2 ((bs.below hB1).below hB2)).mono ?_
      rintro e w3 ⟨rfl, rfl⟩
      go_wp2
      go_ret
      exact ⟨rfl, hB1.trans (hB2.mono hB1.size)⟩
end Go.Proofs.YtdklelnllhpbfaaDoor
