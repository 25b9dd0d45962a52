/- The walk of 'laws.FnParseDecimal': it returns true for every two numbers and every list of bytes. Condition: the table of powers as laid. -/
import Derived.Test.YtggemljdmoegnaaDoorPDec
import Derived.Test.YtggemljdmoegnaaDoorPointed
import Derived.Test.YtggemljdmoegnaaDoorJoin
import Derived.Test.YtggemljdmoegnaaDoorDigit
namespace Go.Proofs.YtggemljdmoegnaaDoor
open Go.RowKit Go.ChangeShapes Go.WideShapes Go.ChangeAt
set_option linter.unusedVariables false
attribute [local irreducible] pointed

theorem bdi_i64 {n : Int} (h : (Lit.int .i64 n).wf = true) : -9223372036854775808 ≤ n ∧ n ≤ 9223372036854775807 := bounds_i64 h
theorem ends_n (A : Option Addr) (l : List UInt8) (c : Nat) (b : Bool) (w : World) (hb : endsB l = b) (h : BS w A l) :
    Calls Tryd.prog 5 #[.slice A l.length c] w fun e w' => e = .returned (.bool b) ∧ w = w' := by
  subst hb
  exact ends_any A l c w h
theorem ends_none {l : List UInt8} (h : endsB l = true) : ∀ c, l[0]? = some c → goesOn c = false := fun c hc => by
  rw [endsB_cons hc] at h
  simpa using h
theorem goes_no {c : UInt8} (h : goesOn c = false) : isDig c = false ∧ c ≠ 46 := by
  constructor
  · cases hd : isDig c with
    | false => rfl
    | true => rw [goes_dig hd] at h; cases h
  · rintro rfl
    exact absurd h (by decide)
theorem scaled_nil (n : Nat) (z : Int) (w : World) (h0 : n = 0) (h1 : -50 ≤ z) (h2 : z ≤ 30) :
    Calls Tryd.prog 10 #[.int .u64 (n : Int), .int .i64 z] w fun e w' => e = .returned (.float .f64 0) ∧ w = w' := by
  subst h0
  exact scaled_zero z w h1 h2
theorem iParseDecimal_any (A : Option Addr) (n d : Nat) (rest l : List UInt8) (k c : Nat) (w : World) (hlk : l.length = k) (hl : l = pointed n d ++ rest) (bs : BS w A l) (h1 : k ≤ 2147483647) (hn : n ≤ 1000000000000000) (hd : d ≤ 20) (hr : ∀ c, rest[0]? = some c → goesOn c = false) (ht : P10 0 23 w) :
    Calls Tryd.prog 7 #[.slice A k c] w (DecRet n d (pointed n d).length w) := by
  have Hn := hide hn
  subst hlk
  clear hn
  have hpt := pointed_text n d rest (fun c hc => goes_no (hr c hc))
  have hv := padded_val n (d + 1)
  have hpl := padded_len n (d + 1)
  have h := parseDecimal_any A (pointed n d ++ rest) (padded n (d + 1)) c ((padded n (d + 1)).length - d) (pointed n d).length d w (hl ▸ bs) (hl ▸ h1) hpt (by rw [hv]; exact Hn.out) (by omega) hd ht
  rw [hv, ← hl] at h
  have H := hide h
  clear hpt hv hpl h hr ht bs hl
  go_enter Tryd.func7, Tryd.ntmps7
  go_wp2_with fail
  refine H.out.mono ?_
  rintro e w1 ⟨x, rfl, hx, rfl⟩
  have HX := hide hx
  clear hx
  go_wp2
  go_ret2
  exact ⟨x, rfl, HX.out, rfl⟩
theorem pointed_small {n d : Nat} (hn : n ≤ 1000000000000000) (hd : d ≤ 20) : (pointed n d).length ≤ 40 := by
  have hl : (dec n).length ≤ 16 := dec_len_le 15 n (by simp only [Nat.reduceAdd, Nat.reducePow]; omega)
  have := pointed_len n d
  have := padded_len n (d + 1)
  split at * <;> omega
set_option maxHeartbeats 1000000 in
theorem fnParseDecimal_walk (x y : Int) (a : Option Addr) (l : List UInt8) (c : Nat) (W : World) (wx : (Lit.int .i64 x).wf = true) (wy : (Lit.int .i64 y).wf = true) (bs : BS W a l) (ht : P10 0 23 W) :
    Calls Tryd.prog 3 #[.int .i64 x, .int .i64 y, .slice a l.length c] W fun e w' => e = .returned (.bool true) ∧ Below W.heap.size W w' := by
  obtain ⟨x1, x2⟩ := bdi_i64 wx
  obtain ⟨y1, y2⟩ := bdi_i64 wy
  have HT := hide ht
  clear wx wy ht
  by_cases hA : 2147483647 < l.length
  · go_enter Tryd.func3, Tryd.ntmps3
    go_wp2
    go_ret
    exact ⟨rfl, Below.refl _ _⟩
  by_cases hx0 : x < 0
  · go_enter Tryd.func3, Tryd.ntmps3
    go_wp2
    go_ret
    exact ⟨rfl, Below.refl _ _⟩
  by_cases hxm : 1000000000000000 < x
  · go_enter Tryd.func3, Tryd.ntmps3
    go_wp2
    go_ret
    exact ⟨rfl, Below.refl _ _⟩
  by_cases hy0 : y < 0
  · go_enter Tryd.func3, Tryd.ntmps3
    go_wp2
    go_ret
    exact ⟨rfl, Below.refl _ _⟩
  by_cases hym : 20 < y
  · go_enter Tryd.func3, Tryd.ntmps3
    go_wp2
    go_ret
    exact ⟨rfl, Below.refl _ _⟩
  by_cases hB : 5000 < l.length
  · go_enter Tryd.func3, Tryd.ntmps3
    go_wp2
    go_ret
    exact ⟨rfl, Below.refl _ _⟩
  cases hE : endsB l with
  | false =>
    have HE := hide hE
    clear hE
    go_enter Tryd.func3, Tryd.ntmps3
    go_wp2_with (go_at_call 5; refine (ends_n _ _ _ false _ HE.out bs).mono ?_; rintro e w1 ⟨rfl, rfl⟩)
    go_ret
    exact ⟨rfl, Below.refl _ _⟩
  | true =>
    have HE := hide hE
    clear hE
    obtain ⟨m, rfl⟩ := Int.eq_ofNat_of_zero_le (show 0 ≤ x by omega)
    obtain ⟨d, rfl⟩ := Int.eq_ofNat_of_zero_le (show 0 ≤ y by omega)
    have Hm := hide (show m ≤ 1000000000000000 by omega)
    have hd : d ≤ 20 := by omega
    have Hps := hide (pointed_small Hm.out hd)
    go_enter Tryd.func3, Tryd.ntmps3
    go_wp2_with (first
      | (go_at_call 5; refine (ends_n _ _ _ true _ HE.out bs).mono ?_; rintro e w1 ⟨rfl, rfl⟩)
      | (go_at_call 6; refine (pointed_any m d _ Hm.out hd).mono ?_; rintro e w1 ⟨A', c', rfl, own, hB1⟩))
    have hp := HasParts.two (w := w1) rfl A' a (pointed m d).length l.length c' c (pointed m d) l 22 rfl rfl own.bs (bs.below hB1)
    have hjl : (pointed m d ++ l).length ≤ 2147483647 := by rw [List.length_append]; have := Hps.out; omega
    refine (join_two w1.heap.size A' a c' c (pointed m d) l _ hp hjl).mono ?_
    rintro e w2 ⟨A2, c2, rfl, own2, hB2⟩
    have hBB : Below W.heap.size W w2 := (hB1.alloc hB1.size _).trans (hB2.mono (by have := hB1.size; simp; omega))
    have HBB := hide hBB
    have ht2 := HT.out.below hBB
    clear own hB1 hB2 hBB hp hjl
    go_wp2_with fail
    refine (iParseDecimal_any A2 m d l (pointed m d ++ l) _ c2 _ (by rw [List.length_append]) rfl own2.bs (by have := Hps.out; first | omega | (rw [List.length_append]; omega)) Hm.out hd (ends_none HE.out) ht2).mono ?_
    rintro e w3 ⟨v, rfl, hv, rfl⟩
    by_cases hm0 : m = 0
    · obtain rfl := hv.1 hm0
      have Hm0 := hide hm0
      clear hm0 hv own2 ht2
      go_wp2_with fail
      refine (scaled_nil m _ _ Hm0.out (by omega) (by omega)).mono ?_
      rintro e w4 ⟨rfl, rfl⟩
      go_wp2_with fail
      refine (near_zero _).mono ?_
      rintro e w5 ⟨rfl, rfl⟩
      go_wp2
      go_ret
      exact ⟨rfl, HBB.out⟩
    · have hmp : 0 < m := by omega
      have HV := hide (hv.2 hmp)
      have Hmp := hide hmp
      clear hm0 hv own2 ht2 hmp
      go_wp2_with fail
      refine (scaled_down m d _ Hmp.out Hm.out (by omega)).mono ?_
      rintro e w4 ⟨⟨u, rfl, hu⟩, rfl⟩
      have HU := hide hu
      clear hu
      go_wp2_with fail
      refine (near_any _ HV.out HU.out (by omega) (rg_div Hmp.out Hm.out (by omega))).mono ?_
      rintro e w5 ⟨rfl, rfl⟩
      go_wp2
      go_ret
      exact ⟨rfl, HBB.out⟩
end Go.Proofs.YtggemljdmoegnaaDoor
