/- The test of entities' names and texts. Conditions: lists shorter than 2^31, of lists shorter than 2^31. -/
import Derived.Test.YtnepjlfkbmindaaDoorWd
namespace Go.Proofs.YtnepjlfkbmindaaDoor
open Go.RowKit
set_option linter.unusedVariables false
set_option linter.unusedSimpArgs false

def isLt (d : UInt8) : Prop := (97 ≤ d.toNat ∧ d.toNat ≤ 122) ∨ (65 ≤ d.toNat ∧ d.toNat ≤ 90)
theorem letter_any (c : UInt8) (w : World) : Calls Tryd.prog 11 #[.int .u8 (c.toNat : Int)] w fun e w' => (e = .returned (.bool true) ∧ isLt c ∧ w = w') ∨ (e = .returned (.bool false) ∧ ¬ isLt c ∧ w = w') := by
  by_cases h1 : 97 ≤ c.toNat <;> by_cases h2 : c.toNat ≤ 122 <;> by_cases h3 : 65 ≤ c.toNat <;> by_cases h4 : c.toNat ≤ 90
  all_goals first
    | (exfalso; omega)
    | (go_enter Tryd.func11, Tryd.ntmps11
       go_wp2
       go_ret
       first
         | exact .inl ⟨ret_bool (by first | rfl | (simp; done) | (simp; omega)), by unfold isLt; omega, rfl⟩
         | exact .inr ⟨ret_bool (by first | rfl | (simp; done) | (simp; omega)), by unfold isLt; omega, rfl⟩)
/-- One name with its text. -/
structure Pair1 (x y : List UInt8) : Prop where
  two : 2 ≤ x.length
  one : 1 ≤ y.length
  le : y.length ≤ x.length
  let_ : ∀ (j : Nat) (d : UInt8), x[j]? = some d → isLt d
  an : ∀ (j : Nat) (d : UInt8), y[j]? = some d → isLt d ∨ (48 ≤ d.toNat ∧ d.toNat ≤ 57)
def EntsOk (ns ts : List (List UInt8)) : Prop := NamesOk ns ∧ ts.length = ns.length ∧ ∀ (i : Nat) (x y : List UInt8), ns[i]? = some x → ts[i]? = some y → Pair1 x y
set_option maxRecDepth 100000 in
set_option maxHeartbeats 4000000 in
theorem ents_any (A1 A2 : Option Addr) (ns ts : List (List UInt8)) (c1 c2 n m : Nat) (w : World) (h1 : LL w A1 ns) (h2 : LL w A2 ts) (hn : ns.length = n) (hm : ts.length = m) (hc : n ≤ c1) (hb : n ≤ 2147483647)
    (hl1 : ∀ (i : Nat) (x : List UInt8), ns[i]? = some x → x.length ≤ 2147483647) (hl2 : ∀ (i : Nat) (x : List UInt8), ts[i]? = some x → x.length ≤ 2147483647) :
    Calls Tryd.prog 5 #[.slice A1 n c1, .slice A2 m c2] w (Says (EntsOk ns ts) w) := by
  have Hn := hide hn
  have Hm := hide hm
  clear hn hm
  by_cases hmn : m = n
  · subst hmn
    go_enter Tryd.func5, Tryd.ntmps5
    go_wp2_with (go_at_call 10; (with_reducible refine (names_any A1 ns c1 m _ h1 Hn.out hc hb hl1).mono ?_); rintro e wf (⟨rfl, hnm, rfl⟩ | ⟨rfl, rfl⟩))
    · have HN := hide hnm
      clear hnm
      go_loop [23] (fun iv => ∃ i : Nat, i ≤ m ∧ iv = .int .i64 i ∧ Hid (∀ (j : Nat) (x y : List UInt8), j < i → ns[j]? = some x → ts[j]? = some y → Pair1 x y)) (fun i => m - (intOf i).toNat)
      case atStart => exact ⟨0, Nat.zero_le _, rfl, fun j x y hj => absurd hj (by omega)⟩
      case round =>
        obtain ⟨i, hi, rfl, hto⟩ := hrel
        by_cases hlt : i < m
        · obtain ⟨x, hx⟩ : ∃ d, ns[i]? = some d := ⟨_, List.getElem?_eq_getElem (by have := Hn.out; omega)⟩
          obtain ⟨y, hy⟩ : ∃ d, ts[i]? = some d := ⟨_, List.getElem?_eq_getElem (by have := Hm.out; omega)⟩
          obtain ⟨b1, o1, X, cx, rfl, hcx, hxc, hbx⟩ := h1 i x hx
          obtain ⟨b2, o2, Y, cy, rfl, hcy, hyc, hby⟩ := h2 i y hy
          have hxl := hl1 i x hx
          have hyl := hl2 i y hy
          obtain ⟨nx, hnx⟩ : ∃ q, x.length = q := ⟨_, rfl⟩
          obtain ⟨ny, hny⟩ : ∃ q, y.length = q := ⟨_, rfl⟩
          have Hx := hide hx
          have Hy := hide hy
          have Hnx := hide hnx
          have Hny := hide hny
          rw [hnx] at hcx hxc hxl
          rw [hny] at hcy hyc hyl
          clear hx hy hnx hny
          by_cases a1 : nx < 2
          · go_wp2
            go_ret
            exact .inr ⟨rfl, rfl⟩
          by_cases a2 : ny < 1
          · go_wp2
            go_ret
            exact .inr ⟨rfl, rfl⟩
          by_cases a3 : nx < ny
          · go_wp2
            go_ret
            exact .inr ⟨rfl, rfl⟩
          go_wp2
          go_loop [51] (fun iv => ∃ j : Nat, j ≤ nx ∧ iv = .int .i64 j ∧ Hid (∀ (t : Nat) (d : UInt8), t < j → x[t]? = some d → isLt d)) (fun i => nx - (intOf i).toNat)
          case atStart => exact ⟨0, Nat.zero_le _, rfl, fun t d hj => absurd hj (by omega)⟩
          case round =>
            obtain ⟨j, hj, rfl, hxt⟩ := hrel
            by_cases hjx : j < nx
            · obtain ⟨d, hd⟩ : ∃ d, x[j]? = some d := ⟨_, List.getElem?_eq_getElem (by have := Hnx.out; omega)⟩
              obtain ⟨b3, o3, rfl, cell⟩ := hbx.at_ hd
              have Hd := hide hd
              clear hd
              go_wp2_with (go_at_call 11; (with_reducible refine (letter_any d _).mono ?_); rintro e w2 (⟨rfl, hdl, rfl⟩ | ⟨rfl, hdl, rfl⟩))
              · have Hdl := hide hdl
                clear hdl
                go_round
                case rel => exact ⟨j + 1, by omega, by go_num, fun t d' ht hd' => by
                  rcases Nat.lt_or_ge t j with h9 | h9
                  · exact hxt.out t d' h9 hd'
                  · obtain rfl : t = j := by omega
                    rw [Hd.out] at hd'
                    injection hd' with hd'
                    exact hd' ▸ Hdl.out⟩
                case measure => simp [intOf]; omega
              · go_ret
                exact .inr ⟨rfl, rfl⟩
            · obtain rfl : j = nx := by omega
              go_wp2
              go_loop [64] (fun iv => ∃ k : Nat, k ≤ ny ∧ iv = .int .i64 k ∧ Hid (∀ (t : Nat) (d : UInt8), t < k → y[t]? = some d → isLt d ∨ (48 ≤ d.toNat ∧ d.toNat ≤ 57))) (fun i => ny - (intOf i).toNat)
              case atStart => exact ⟨0, Nat.zero_le _, rfl, fun t d hj => absurd hj (by omega)⟩
              case round =>
                obtain ⟨k, hk, rfl, hyt⟩ := hrel
                by_cases hky : k < ny
                · obtain ⟨d, hd⟩ : ∃ d, y[k]? = some d := ⟨_, List.getElem?_eq_getElem (by have := Hny.out; omega)⟩
                  obtain ⟨b3, o3, rfl, cell⟩ := hby.at_ hd
                  have Hd := hide hd
                  clear hd
                  go_wp2_with (first
                    | (go_at_call 11; (with_reducible refine (letter_any d _).mono ?_); rintro e w2 (⟨rfl, hdl, rfl⟩ | ⟨rfl, hdl, rfl⟩))
                    | (go_at_call 12; (with_reducible refine (digit_any d _).mono ?_); rintro e w3 (⟨rfl, hdg, rfl⟩ | ⟨rfl, rfl⟩)))
                  all_goals first
                    | (go_ret; exact .inr ⟨rfl, rfl⟩)
                    | (go_round; (case rel => exact ⟨k + 1, by omega, by go_num, fun t d' ht hd' => by
                        rcases Nat.lt_or_ge t k with h9 | h9
                        · exact hyt.out t d' h9 hd'
                        · obtain rfl : t = k := by omega
                          rw [Hd.out] at hd'
                          injection hd' with hd'
                          subst hd'
                          first | exact .inl hdl | exact .inr hdg⟩); (case measure => simp [intOf]; omega))
                · obtain rfl : k = ny := by omega
                  go_wp2
                  go_round
                  case rel => exact ⟨i + 1, by omega, by go_num, fun t x' y' ht hx' hy' => by
                    rcases Nat.lt_or_ge t i with h9 | h9
                    · exact hto.out t x' y' h9 hx' hy'
                    · obtain rfl : t = i := by omega
                      rw [Hx.out] at hx'
                      rw [Hy.out] at hy'
                      injection hx' with hx'
                      injection hy' with hy'
                      subst hx' hy'
                      exact ⟨by rw [Hnx.out]; omega, by rw [Hny.out]; omega, by rw [Hnx.out, Hny.out]; omega, fun u d hd => hxt.out u d (by have := (List.getElem?_eq_some_iff.1 hd).1; have := Hnx.out; omega) hd, fun u d hd => hyt.out u d (by have := (List.getElem?_eq_some_iff.1 hd).1; have := Hny.out; omega) hd⟩⟩
                  case measure => simp [intOf]; omega
        · go_wp2
          go_ret
          exact .inl ⟨rfl, ⟨HN.out, by rw [Hm.out, Hn.out], fun t x' y' hx' hy' => hto.out t x' y' (by have := (List.getElem?_eq_some_iff.1 hx').1; have := Hn.out; omega) hx' hy'⟩, rfl⟩
    · go_ret
      exact .inr ⟨rfl, rfl⟩
  · have hmn' : ((m : Int) != (n : Int)) = true := by rw [bne_iff_ne]; omega
    go_enter Tryd.func5, Tryd.ntmps5
    go_wp2_with (go_at_call 10; (with_reducible refine (names_any A1 ns c1 n _ h1 Hn.out hc hb hl1).mono ?_); rintro e wf (⟨rfl, hnm, rfl⟩ | ⟨rfl, rfl⟩))
    all_goals (go_ret; exact .inr ⟨rfl, rfl⟩)
end Go.Proofs.YtnepjlfkbmindaaDoor
