/- The package's reading of an integer without a sign, at a text that begins with digits (or none) and does not go on with one. Conditions: the digits mean a number of 64 bits; the text is shorter than 2^31. -/
import Derived.Test.YthmmcnpgkbfelaaDoorNum
namespace Go.Proofs.YthmmcnpgkbfelaaDoor
open Go.RowKit
set_option linter.unusedVariables false

/-- The text l is the digits ds and something that does not begin with a digit. -/
structure Digits (l ds : List UInt8) : Prop where
  pre : ∀ (k : Nat) (c : UInt8), ds[k]? = some c → l[k]? = some c ∧ isDig c = true
  len : ds.length ≤ l.length
  stop : ∀ c, l[ds.length]? = some c → isDig c = false
theorem Digits.of (ds r : List UInt8) (h : ∀ c ∈ ds, isDig c = true) (hr : at_ isDig r 0 = false) : Digits (ds ++ r) ds where
  pre := fun k c hc => ⟨by rw [List.getElem?_append_left (List.getElem?_eq_some_iff.1 hc).1]; exact hc, h c (List.mem_of_getElem? hc)⟩
  len := by simp
  stop := fun c hc => by
    rw [List.getElem?_append_right (Nat.le_refl _), Nat.sub_self] at hc
    rw [at_some hc] at hr
    exact hr

set_option maxHeartbeats 1000000 in
theorem parseUint_any (A : Option Addr) (l ds : List UInt8) (c : Nat) (w : World) (h : BS w A l) (h1 : l.length ≤ 2147483647) (hd : Digits l ds) (hv : dval ds ≤ 18446744073709551615) :
    Calls Tryd.prog 10 #[.slice A l.length c] w fun e w' => e = .returned (.tuple #[.int .u64 (dval ds : Int), .int .i64 (ds.length : Int)]) ∧ w = w' := by
  have Hd := hide hd
  have Hv := hide hv
  have hdl := hd.len
  clear hd hv
  go_enter Tryd.func10, Tryd.ntmps10
  go_wp2
  go_loop [4, 5] (fun i t => ∃ k v : Nat, k ≤ ds.length ∧ i = .int .i64 k ∧ t = .int .u64 v ∧ Hid (v = dval (ds.take k))) (fun i _ => ds.length - (intOf i).toNat)
  case atStart => exact ⟨0, 0, Nat.zero_le _, rfl, rfl, hide rfl⟩
  case round =>
    obtain ⟨k, v, hk, rfl, rfl, hvk⟩ := hrel
    by_cases hlt : k < ds.length
    · obtain ⟨d, hd⟩ : ∃ x, ds[k]? = some x := ⟨_, List.getElem?_eq_getElem hlt⟩
      obtain ⟨hl, hdig⟩ := Hd.out.pre k d hd
      obtain ⟨b1, o1, rfl, cell1⟩ := h.at_ hl
      obtain ⟨hb1, hb2⟩ := dig_bd hdig
      have e1 := dval_take hd
      rw [← hvk.out] at e1
      have e2 := dval_le (l := ds) (k := k + 1) (by omega)
      have e3 := Hv.out
      have hbd : (v : Int) * 10 + ((d.toNat : Int) - 48) ≤ 18446744073709551615 := by omega
      have Hvk2 := hide (show v * 10 + (d.toNat - 48) = dval (ds.take (k + 1)) from e1.symm)
      clear e1 e2 e3 hl hd hdig hvk
      have Hz := hide hb1
      go_wp2
      go_round
      case rel => exact ⟨k + 1, v * 10 + (d.toNat - 48), by omega, by go_num, by have := Hz.out; go_num, Hvk2⟩
      case measure => simp [intOf]; omega
    · obtain rfl : k = ds.length := by omega
      have hvk2 := hvk.out
      rw [List.take_length] at hvk2
      have Hvk2 := hide hvk2
      clear hvk hvk2
      by_cases hend : ds.length < l.length
      · obtain ⟨d, hd⟩ : ∃ x, l[ds.length]? = some x := ⟨_, List.getElem?_eq_getElem hend⟩
        obtain ⟨b1, o1, rfl, cell1⟩ := h.at_ hd
        have hn := dig_not (Hd.out.stop d hd)
        clear hd
        by_cases hlo : 48 ≤ d.toNat
        · have hhi : ¬ d.toNat ≤ 57 := fun x => hn ⟨hlo, x⟩
          clear hn
          go_wp2
          go_ret2
          exact ⟨by rw [Hvk2.out]; rfl, rfl⟩
        · clear hn
          go_wp2
          go_ret2
          exact ⟨by rw [Hvk2.out]; rfl, rfl⟩
      · go_wp2
        go_ret2
        exact ⟨by rw [Hvk2.out]; rfl, rfl⟩
end Go.Proofs.YthmmcnpgkbfelaaDoor
