/- The package's reading of an integer, at a text that begins with a sign or none and digits. Conditions: the digits mean a number of 64 bits; the text is shorter than 2^31. -/
import Derived.Test.YtggemljdmoegnaaDoorNum
namespace Go.Proofs.YtggemljdmoegnaaDoor
open Go.RowKit
set_option linter.unusedVariables false

/-- From place s on the text l has the digits ds and then something that is no digit. -/
structure DigitsAt (l : List UInt8) (s : Nat) (ds : List UInt8) : Prop where
  pre : ∀ (k : Nat) (c : UInt8), ds[k]? = some c → l[s + k]? = some c ∧ isDig c = true
  len : s + ds.length ≤ l.length
  stop : ∀ c, l[s + ds.length]? = some c → isDig c = false
theorem DigitsAt.of (p ds r : List UInt8) (s : Nat) (hs : p.length = s) (h : ∀ c ∈ ds, isDig c = true) (hr : at_ isDig r 0 = false) : DigitsAt (p ++ ds ++ r) s ds where
  pre := fun k c hc => ⟨by
    have hk := (List.getElem?_eq_some_iff.1 hc).1
    rw [List.append_assoc, List.getElem?_append_right (by omega), hs, Nat.add_sub_cancel_left, List.getElem?_append_left hk]; exact hc, h c (List.mem_of_getElem? hc)⟩
  len := by simp; omega
  stop := fun c hc => by
    rw [List.getElem?_append_right (by simp; omega)] at hc
    have e : s + ds.length - (p ++ ds).length = 0 := by simp; omega
    rw [e] at hc
    rw [at_some hc] at hr
    exact hr
theorem ret_two {j k : IntKind} {a a' b b' : Int} (ha : a = a') (hb : b = b') : Ending.returned (.tuple #[.int j a, .int k b]) = .returned (.tuple #[.int j a', .int k b']) := by rw [ha, hb]
theorem neg_i64' (v : Nat) (h : v ≤ 9223372036854775808) : wrap64 (-(wrap64 (v : Int))) = -(v : Int) := by
  simp only [wrap64]
  omega

set_option maxHeartbeats 2000000 in
theorem parseInt_neg (A : Option Addr) (l ds : List UInt8) (c : Nat) (w : World) (h : BS w A l) (h1 : l.length ≤ 2147483647) (hs : l[0]? = some 45) (hd : DigitsAt l 1 ds) (hpos : 0 < ds.length) (hv : dval ds ≤ 9223372036854775808) :
    Calls Tryd.prog 20 #[.slice A l.length c] w fun e w' => e = .returned (.tuple #[.int .i64 (-(dval ds : Int)), .int .i64 ((1 + ds.length : Nat) : Int)]) ∧ w = w' := by
  obtain ⟨b0, o0, rfl, cell0⟩ := h.at_ hs
  rw [Nat.add_zero] at cell0
  have hl0 := (List.getElem?_eq_some_iff.1 hs).1
  clear hs
  simp only [show ((45 : UInt8).toNat : Int) = 45 from rfl] at cell0
  have Hd := hide hd
  have Hv := hide hv
  have hdl := hd.len
  clear hd hv
  go_enter Tryd.func20, Tryd.ntmps20
  go_wp2
  clear cell0
  go_loop [4, 7] (fun i t => ∃ k v : Nat, k ≤ ds.length ∧ i = .int .i64 ((1 + k : Nat) : Int) ∧ t = .int .u64 v ∧ Hid (v = dval (ds.take k))) (fun i _ => 1 + ds.length - (intOf i).toNat)
  case atStart => exact ⟨0, 0, Nat.zero_le _, rfl, rfl, hide rfl⟩
  case round =>
    obtain ⟨k, v, hk, rfl, rfl, hvk⟩ := hrel
    by_cases hlt : k < ds.length
    · obtain ⟨d, hd⟩ : ∃ x, ds[k]? = some x := ⟨_, List.getElem?_eq_getElem hlt⟩
      obtain ⟨hl, hdig⟩ := Hd.out.pre k d hd
      obtain ⟨b1, o1, e1, cell1⟩ := h.at_ hl
      simp only [Option.some.injEq, Addr.mk.injEq, and_true] at e1
      obtain ⟨rfl, rfl⟩ := e1
      skip
      obtain ⟨hb1, hb2⟩ := dig_bd hdig
      have e1 := dval_take hd
      rw [← hvk.out] at e1
      have e2 := dval_le (l := ds) (k := k + 1) (by omega)
      have e3 := Hv.out
      have hbd : (v : Int) * 10 + ((d.toNat : Int) - 48) ≤ 9223372036854775808 := by omega
      have Hvk2 := hide (show v * 10 + (d.toNat - 48) = dval (ds.take (k + 1)) from e1.symm)
      clear e1 e2 e3 hl hd hdig hvk
      have Hz := hide hb1
      go_wp2
      go_round
      case rel => exact ⟨k + 1, v * 10 + (d.toNat - 48), by omega, by go_num, by have := Hz.out; go_num, Hvk2⟩
      case measure => simp [intOf]; omega
    · obtain rfl : k = ds.length := by omega
      have hvk2 := hvk.out
      rw [List.take_length] at hvk2
      have Hvk2 := hide hvk2
      have hvb : (v : Int) ≤ 9223372036854775808 := by have := Hv.out; omega
      have Hn2 := hide (neg_i64' v (by omega))
      have Hvb := hide hvb
      clear hvb
      clear hvk hvk2
      have hne : (((1 + ds.length : Nat) : Int) == 1) = false := by rw [beq_eq_false_iff_ne]; omega
      by_cases hend : 1 + ds.length < l.length
      · obtain ⟨d, hd⟩ : ∃ x, l[1 + ds.length]? = some x := ⟨_, List.getElem?_eq_getElem hend⟩
        obtain ⟨b1, o1, e1, cell1⟩ := h.at_ hd
        simp only [Option.some.injEq, Addr.mk.injEq, and_true] at e1
        obtain ⟨rfl, rfl⟩ := e1
        skip
        have hn := dig_not (Hd.out.stop d hd)
        clear hd
        by_cases hlo : 48 ≤ d.toNat
        · have hhi : ¬ d.toNat ≤ 57 := fun x => hn ⟨hlo, x⟩
          clear hn
          go_wp2
          go_ret2
          exact ⟨ret_two (by rw [Hn2.out, Hvk2.out]) (by omega), rfl⟩
        · clear hn
          go_wp2
          go_ret2
          exact ⟨ret_two (by rw [Hn2.out, Hvk2.out]) (by omega), rfl⟩
      · go_wp2
        go_ret2
        exact ⟨ret_two (by rw [Hn2.out, Hvk2.out]) (by omega), rfl⟩
set_option maxHeartbeats 2000000 in
theorem parseInt_plus (A : Option Addr) (l ds : List UInt8) (c : Nat) (w : World) (h : BS w A l) (h1 : l.length ≤ 2147483647) (hs : l[0]? = some 43) (hd : DigitsAt l 1 ds) (hpos : 0 < ds.length) (hv : dval ds ≤ 9223372036854775807) :
    Calls Tryd.prog 20 #[.slice A l.length c] w fun e w' => e = .returned (.tuple #[.int .i64 ((dval ds : Int)), .int .i64 ((1 + ds.length : Nat) : Int)]) ∧ w = w' := by
  obtain ⟨b0, o0, rfl, cell0⟩ := h.at_ hs
  rw [Nat.add_zero] at cell0
  have hl0 := (List.getElem?_eq_some_iff.1 hs).1
  clear hs
  simp only [show ((43 : UInt8).toNat : Int) = 43 from rfl] at cell0
  have Hd := hide hd
  have Hv := hide hv
  have hdl := hd.len
  clear hd hv
  go_enter Tryd.func20, Tryd.ntmps20
  go_wp2
  clear cell0
  go_loop [4, 7] (fun i t => ∃ k v : Nat, k ≤ ds.length ∧ i = .int .i64 ((1 + k : Nat) : Int) ∧ t = .int .u64 v ∧ Hid (v = dval (ds.take k))) (fun i _ => 1 + ds.length - (intOf i).toNat)
  case atStart => exact ⟨0, 0, Nat.zero_le _, rfl, rfl, hide rfl⟩
  case round =>
    obtain ⟨k, v, hk, rfl, rfl, hvk⟩ := hrel
    by_cases hlt : k < ds.length
    · obtain ⟨d, hd⟩ : ∃ x, ds[k]? = some x := ⟨_, List.getElem?_eq_getElem hlt⟩
      obtain ⟨hl, hdig⟩ := Hd.out.pre k d hd
      obtain ⟨b1, o1, e1, cell1⟩ := h.at_ hl
      simp only [Option.some.injEq, Addr.mk.injEq, and_true] at e1
      obtain ⟨rfl, rfl⟩ := e1
      skip
      obtain ⟨hb1, hb2⟩ := dig_bd hdig
      have e1 := dval_take hd
      rw [← hvk.out] at e1
      have e2 := dval_le (l := ds) (k := k + 1) (by omega)
      have e3 := Hv.out
      have hbd : (v : Int) * 10 + ((d.toNat : Int) - 48) ≤ 9223372036854775807 := by omega
      have Hvk2 := hide (show v * 10 + (d.toNat - 48) = dval (ds.take (k + 1)) from e1.symm)
      clear e1 e2 e3 hl hd hdig hvk
      have Hz := hide hb1
      go_wp2
      go_round
      case rel => exact ⟨k + 1, v * 10 + (d.toNat - 48), by omega, by go_num, by have := Hz.out; go_num, Hvk2⟩
      case measure => simp [intOf]; omega
    · obtain rfl : k = ds.length := by omega
      have hvk2 := hvk.out
      rw [List.take_length] at hvk2
      have Hvk2 := hide hvk2
      have hvb : (v : Int) ≤ 9223372036854775807 := by have := Hv.out; omega
      skip
      clear hvk hvk2
      have hne : (((1 + ds.length : Nat) : Int) == 1) = false := by rw [beq_eq_false_iff_ne]; omega
      by_cases hend : 1 + ds.length < l.length
      · obtain ⟨d, hd⟩ : ∃ x, l[1 + ds.length]? = some x := ⟨_, List.getElem?_eq_getElem hend⟩
        obtain ⟨b1, o1, e1, cell1⟩ := h.at_ hd
        simp only [Option.some.injEq, Addr.mk.injEq, and_true] at e1
        obtain ⟨rfl, rfl⟩ := e1
        skip
        have hn := dig_not (Hd.out.stop d hd)
        clear hd
        by_cases hlo : 48 ≤ d.toNat
        · have hhi : ¬ d.toNat ≤ 57 := fun x => hn ⟨hlo, x⟩
          clear hn
          go_wp2
          go_ret2
          exact ⟨ret_two (by rw [Hvk2.out]) (by omega), rfl⟩
        · clear hn
          go_wp2
          go_ret2
          exact ⟨ret_two (by rw [Hvk2.out]) (by omega), rfl⟩
      · go_wp2
        go_ret2
        exact ⟨ret_two (by rw [Hvk2.out]) (by omega), rfl⟩
set_option maxHeartbeats 2000000 in
theorem parseInt_none (A : Option Addr) (l ds : List UInt8) (c : Nat) (w : World) (h : BS w A l) (h1 : l.length ≤ 2147483647) (hs : 0 < ds.length) (hd : DigitsAt l 0 ds) (hpos : 0 < ds.length) (hv : dval ds ≤ 9223372036854775807) :
    Calls Tryd.prog 20 #[.slice A l.length c] w fun e w' => e = .returned (.tuple #[.int .i64 ((dval ds : Int)), .int .i64 ((0 + ds.length : Nat) : Int)]) ∧ w = w' := by
  obtain ⟨d0, hd0⟩ : ∃ x, ds[0]? = some x := ⟨_, List.getElem?_eq_getElem hs⟩
  obtain ⟨hl0', hdig0⟩ := hd.pre 0 d0 hd0
  rw [Nat.add_zero] at hl0'
  obtain ⟨b0, o0, rfl, cell0⟩ := h.at_ hl0'
  rw [Nat.add_zero] at cell0
  have hl0 := (List.getElem?_eq_some_iff.1 hl0').1
  obtain ⟨hq1, hq2⟩ := dig_bd hdig0
  have hb43 : ((d0.toNat : Int) == 43) = false := by rw [beq_eq_false_iff_ne]; omega
  have hb45 : ((d0.toNat : Int) == 45) = false := by rw [beq_eq_false_iff_ne]; omega
  clear hl0' hdig0 hd0
  have Hd := hide hd
  have Hv := hide hv
  have hdl := hd.len
  clear hd hv
  go_enter Tryd.func20, Tryd.ntmps20
  go_wp2
  clear cell0
  go_loop [4, 7] (fun i t => ∃ k v : Nat, k ≤ ds.length ∧ i = .int .i64 ((k : Nat) : Int) ∧ t = .int .u64 v ∧ Hid (v = dval (ds.take k))) (fun i _ => 0 + ds.length - (intOf i).toNat)
  case atStart => exact ⟨0, 0, Nat.zero_le _, rfl, rfl, hide rfl⟩
  case round =>
    obtain ⟨k, v, hk, rfl, rfl, hvk⟩ := hrel
    by_cases hlt : k < ds.length
    · obtain ⟨d, hd⟩ : ∃ x, ds[k]? = some x := ⟨_, List.getElem?_eq_getElem hlt⟩
      obtain ⟨hl, hdig⟩ := Hd.out.pre k d hd
      obtain ⟨b1, o1, e1, cell1⟩ := h.at_ hl
      simp only [Option.some.injEq, Addr.mk.injEq, and_true] at e1
      obtain ⟨rfl, rfl⟩ := e1
      rw [Nat.zero_add] at cell1
      obtain ⟨hb1, hb2⟩ := dig_bd hdig
      have e1 := dval_take hd
      rw [← hvk.out] at e1
      have e2 := dval_le (l := ds) (k := k + 1) (by omega)
      have e3 := Hv.out
      have hbd : (v : Int) * 10 + ((d.toNat : Int) - 48) ≤ 9223372036854775807 := by omega
      have Hvk2 := hide (show v * 10 + (d.toNat - 48) = dval (ds.take (k + 1)) from e1.symm)
      clear e1 e2 e3 hl hd hdig hvk
      have Hz := hide hb1
      go_wp2
      go_round
      case rel => exact ⟨k + 1, v * 10 + (d.toNat - 48), by omega, by go_num, by have := Hz.out; go_num, Hvk2⟩
      case measure => simp [intOf]; omega
    · obtain rfl : k = ds.length := by omega
      have hvk2 := hvk.out
      rw [List.take_length] at hvk2
      have Hvk2 := hide hvk2
      have hvb : (v : Int) ≤ 9223372036854775807 := by have := Hv.out; omega
      skip
      clear hvk hvk2
      have hne : (((ds.length : Nat) : Int) == 0) = false := by rw [beq_eq_false_iff_ne]; omega
      by_cases hend : 0 + ds.length < l.length
      · obtain ⟨d, hd⟩ : ∃ x, l[0 + ds.length]? = some x := ⟨_, List.getElem?_eq_getElem hend⟩
        obtain ⟨b1, o1, e1, cell1⟩ := h.at_ hd
        simp only [Option.some.injEq, Addr.mk.injEq, and_true] at e1
        obtain ⟨rfl, rfl⟩ := e1
        rw [Nat.zero_add] at cell1
        have hn := dig_not (Hd.out.stop d hd)
        clear hd
        by_cases hlo : 48 ≤ d.toNat
        · have hhi : ¬ d.toNat ≤ 57 := fun x => hn ⟨hlo, x⟩
          clear hn
          go_wp2
          go_ret2
          exact ⟨ret_two (by rw [Hvk2.out]) (by omega), rfl⟩
        · clear hn
          go_wp2
          go_ret2
          exact ⟨ret_two (by rw [Hvk2.out]) (by omega), rfl⟩
      · go_wp2
        go_ret2
        exact ⟨ret_two (by rw [Hvk2.out]) (by omega), rfl⟩
end Go.Proofs.YtggemljdmoegnaaDoor
