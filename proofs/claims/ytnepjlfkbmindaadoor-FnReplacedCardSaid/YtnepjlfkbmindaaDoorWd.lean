/- The tests of a media type's words and names. Conditions: lists shorter than 2^31. -/
import Derived.Test.YtnepjlfkbmindaaDoorWords
import Derived.Test.YtnepjlfkbmindaaDoorSame
import Derived.Deep.DeepCutAuto
namespace Go.Proofs.YtnepjlfkbmindaaDoor
open Go.RowKit
set_option linter.unusedVariables false
set_option linter.unusedSimpArgs false

/-- A test that changes nothing: if it says yes, F holds. -/
def Says (F : Prop) (w : World) (e : Ending) (w' : World) : Prop := (e = .returned (.bool true) ∧ F ∧ w = w') ∨ (e = .returned (.bool false) ∧ w = w')
def okW (c : UInt8) : Prop := (97 ≤ c.toNat ∧ c.toNat ≤ 122) ∨ (48 ≤ c.toNat ∧ c.toNat ≤ 57)
/-- A word. -/
def IsW (l : List UInt8) : Prop := 0 < l.length ∧ l.length ≤ 30 ∧ ∀ (j : Nat) (c : UInt8), l[j]? = some c → okW c
/-- A list of lists of bytes in memory. -/
def LL (w : World) (A : Option Addr) (ls : List (List UInt8)) : Prop := ∀ i x, ls[i]? = some x → ∃ b o Ai ci, A = some ⟨b, o, none⟩ ∧ w.cell? ⟨b, o + i, none⟩ = some (.slice Ai x.length ci) ∧ x.length ≤ ci ∧ BS w Ai x
theorem LL.below {w w' : World} {A : Option Addr} {ls : List (List UInt8)} (h : LL w A ls) (hb : Below w.heap.size w w') : LL w' A ls := fun i x hi => by
  obtain ⟨b, o, Ai, ci, e, hc, hl, hs⟩ := h i x hi
  exact ⟨b, o, Ai, ci, e, (hb.cell (block_lt_of_cell hc)).trans hc, hl, hs.below hb⟩
theorem digit_any (c : UInt8) (w : World) : Calls Tryd.prog 12 #[.int .u8 (c.toNat : Int)] w (Says (48 ≤ c.toNat ∧ c.toNat ≤ 57) w) := by
  by_cases h1 : 48 ≤ c.toNat
  · by_cases h2 : c.toNat ≤ 57
    · go_enter Tryd.func12, Tryd.ntmps12
      go_wp2
      go_ret
      exact .inl ⟨ret_bool (by first | (simp; done) | (simp; omega)), ⟨h1, h2⟩, rfl⟩
    · go_enter Tryd.func12, Tryd.ntmps12
      go_wp2
      go_ret
      exact .inr ⟨ret_bool (by first | (simp; done) | (simp; omega)), rfl⟩
  · go_enter Tryd.func12, Tryd.ntmps12
    go_wp2
    go_ret
    exact .inr ⟨ret_bool (by first | (simp; done) | (simp; omega)), rfl⟩
set_option maxHeartbeats 1000000 in
theorem word_any (A : Option Addr) (l : List UInt8) (c n : Nat) (w : World) (h : BS w A l) (hn : l.length = n) (h1 : n ≤ 2147483647) :
    Calls Tryd.prog 24 #[.slice A n c] w (Says (IsW l) w) := by
  have Hn := hide hn
  clear hn
  go_enter Tryd.func24, Tryd.ntmps24
  go_wp2
  go_loop [7] (fun i => ∃ k : Nat, k ≤ n ∧ i = .int .i64 k ∧ Hid (∀ j, j < k → ∀ d, l[j]? = some d → okW d)) (fun i => n - (intOf i).toNat)
  case atStart => exact ⟨0, Nat.zero_le _, rfl, fun j hj => absurd hj (by omega)⟩
  case round =>
    obtain ⟨k, hk, rfl, hto⟩ := hrel
    by_cases hlt : k < n
    · obtain ⟨d, hd⟩ : ∃ d, l[k]? = some d := ⟨_, List.getElem?_eq_getElem (by have := Hn.out; omega)⟩
      obtain ⟨b, o, rfl, cell⟩ := h.at_ hd
      have hd256 := d.toNat_lt
      have Hd := hide hd
      clear hd
      go_wp2_with (go_at_call 12; (with_reducible refine (digit_any d _).mono ?_); rintro e w2 (⟨rfl, hdg, rfl⟩ | ⟨rfl, rfl⟩))
      all_goals first
        | (go_ret; exact .inr ⟨rfl, rfl⟩)
        | (go_round; (case rel => exact ⟨k + 1, by omega, by go_num, fun j hj d' hd' => by
            rcases Nat.lt_or_ge j k with hjk | hjk
            · exact hto.out j hjk d' hd'
            · obtain rfl : j = k := by omega
              rw [Hd.out] at hd'
              injection hd' with hd'
              subst hd'
              unfold okW
              first | omega | (exfalso; (try simp only [Bool.not_eq_false', Bool.not_eq_true', decide_eq_true_eq, decide_eq_false_iff_not] at *); omega)⟩); (case measure => simp [intOf]; omega))
    · have Hk := hide (fun j d hd => hto.out j (by have := (List.getElem?_eq_some_iff.1 hd).1; have := Hn.out; omega) d hd : ∀ (j : Nat) (d : UInt8), l[j]? = some d → okW d)
      by_cases h0 : 0 < n
      · by_cases h30 : n ≤ 30
        · go_wp2
          go_ret
          exact .inl ⟨ret_bool (by first | rfl | (simp; done) | (simp; omega)), ⟨by rw [Hn.out]; exact h0, by rw [Hn.out]; exact h30, Hk.out⟩, rfl⟩
        · go_wp2
          go_ret
          exact .inr ⟨ret_bool (by first | (simp; done) | (simp; omega)), rfl⟩
      · go_wp2
        go_ret
        exact .inr ⟨ret_bool (by first | (simp; done) | (simp; omega)), rfl⟩
theorem isWord_any (A : Option Addr) (l : List UInt8) (c n : Nat) (w : World) (h : BS w A l) (hn : l.length = n) (h1 : n ≤ 2147483647) :
    Calls Tryd.prog 20 #[.slice A n c] w (Says (IsW l) w) := by
  have Hn := hide hn
  clear hn
  go_enter Tryd.func20, Tryd.ntmps20
  go_wp2_with (go_at_call 24; (with_reducible refine (word_any A l c n _ h Hn.out h1).mono ?_); rintro e w2 (⟨rfl, hw, rfl⟩ | ⟨rfl, rfl⟩))
  · go_ret
    exact .inl ⟨rfl, hw, rfl⟩
  · go_ret
    exact .inr ⟨rfl, rfl⟩
/-- The test of sizes. -/
theorem fits_any (A : Option Addr) (ls : List (List UInt8)) (c n : Nat) (w : World) (h : LL w A ls) (hn : ls.length = n) (hl : ∀ (i : Nat) (x : List UInt8), ls[i]? = some x → x.length ≤ maxLen) :
    Calls Tryd.prog 4 #[.slice A n c] w (Says (n ≤ 2147483647 ∧ ∀ (i : Nat) (x : List UInt8), ls[i]? = some x → x.length ≤ 2147483647) w) := by
  have Hn := hide hn
  clear hn
  by_cases hb : 2147483647 < n
  · go_enter Tryd.func4, Tryd.ntmps4
    go_wp2
    go_ret
    exact .inr ⟨rfl, rfl⟩
  · go_enter Tryd.func4, Tryd.ntmps4
    go_wp2
    go_loop [10] (fun i => ∃ k : Nat, k ≤ n ∧ i = .int .i64 k ∧ Hid (∀ j, j < k → ∀ x, ls[j]? = some x → x.length ≤ 2147483647)) (fun i => n - (intOf i).toNat)
    case atStart => exact ⟨0, Nat.zero_le _, rfl, fun j hj => absurd hj (by omega)⟩
    case round =>
      obtain ⟨k, hk, rfl, hto⟩ := hrel
      by_cases hlt : k < n
      · obtain ⟨x, hx⟩ : ∃ d, ls[k]? = some d := ⟨_, List.getElem?_eq_getElem (by have := Hn.out; omega)⟩
        obtain ⟨b, o, Ai, ci, rfl, hc, hxc, hbs⟩ := h k x hx
        obtain ⟨q, hq⟩ : ∃ q, x.length = q := ⟨_, rfl⟩
        have Hx := hide hx
        have Hq := hide hq
        rw [hq] at hc hxc
        clear hx hq
        by_cases hq2 : 2147483647 < q
        · go_wp2
          go_ret
          exact .inr ⟨rfl, rfl⟩
        · go_wp2
          go_round
          case rel => exact ⟨k + 1, by omega, by go_num, fun j hj y hy => by
            rcases Nat.lt_or_ge j k with hjk | hjk
            · exact hto.out j hjk y hy
            · obtain rfl : j = k := by omega
              rw [Hx.out] at hy
              injection hy with hy
              subst hy
              rw [Hq.out]
              omega⟩
          case measure => simp [intOf]; omega
      · go_wp2
        go_ret
        exact .inl ⟨rfl, ⟨by omega, fun i x hx => hto.out i (by have := (List.getElem?_eq_some_iff.1 hx).1; have := Hn.out; omega) x hx⟩, rfl⟩
/-- The test of names. -/
def NamesOk (ls : List (List UInt8)) : Prop := (∀ x ∈ ls, IsW x) ∧ ls.Nodup ∧ ls.length ≤ 10
theorem nodup_snoc {ls : List (List UInt8)} {k : Nat} {x : List UInt8} (h : (ls.take k).Nodup) (hx : ls[k]? = some x) (hn : ∀ j, j < k → ls[j]? ≠ some x) : (ls.take (k + 1)).Nodup := by
  obtain ⟨hk, e⟩ := List.getElem?_eq_some_iff.1 hx
  rw [List.take_succ_eq_append_getElem hk, e]
  refine List.nodup_append.2 ⟨h, by simp, fun a ha b hb => ?_⟩
  simp at hb
  subst hb
  rintro rfl
  obtain ⟨j, hj⟩ := List.getElem?_of_mem ha
  rw [List.getElem?_take] at hj
  split at hj
  · rename_i h1; exact hn j h1 hj
  · cases hj
theorem isw_snoc {ls : List (List UInt8)} {k : Nat} {x : List UInt8} (h : ∀ y ∈ ls.take k, IsW y) (hx : ls[k]? = some x) (hw : IsW x) : ∀ y ∈ ls.take (k + 1), IsW y := by
  obtain ⟨hk, e⟩ := List.getElem?_eq_some_iff.1 hx
  rw [List.take_succ_eq_append_getElem hk, e]
  intro y hy
  rcases List.mem_append.1 hy with hy | hy
  · exact h y hy
  · simp at hy
    subst hy
    exact hw
set_option maxHeartbeats 2000000 in
theorem names_any (A : Option Addr) (ls : List (List UInt8)) (c n : Nat) (w : World) (h : LL w A ls) (hn : ls.length = n) (hc : n ≤ c) (h1 : n ≤ 2147483647) (hl : ∀ (i : Nat) (x : List UInt8), ls[i]? = some x → x.length ≤ 2147483647) :
    Calls Tryd.prog 10 #[.slice A n c] w (Says (NamesOk ls) w) := by
  have Hn := hide hn
  clear hn
  go_enter Tryd.func10, Tryd.ntmps10
  go_wp2
  go_loop [9] (fun i => ∃ k : Nat, k ≤ n ∧ i = .int .i64 k ∧ Hid (∀ y ∈ ls.take k, IsW y) ∧ Hid ((ls.take k).Nodup)) (fun i => n - (intOf i).toNat)
  case atStart => exact ⟨0, Nat.zero_le _, rfl, fun y hy => by simp at hy, hide (by simp)⟩
  case round =>
    obtain ⟨k, hk, rfl, hw, hd⟩ := hrel
    by_cases hlt : k < n
    · obtain ⟨x, hx⟩ : ∃ d, ls[k]? = some d := ⟨_, List.getElem?_eq_getElem (by have := Hn.out; omega)⟩
      obtain ⟨b, o, Ai, ci, rfl, hcx, hxc, hbs⟩ := h k x hx
      have hxl := hl k x hx
      obtain ⟨q, hq⟩ : ∃ q, x.length = q := ⟨_, rfl⟩
      have Hx := hide hx
      have Hq := hide hq
      rw [hq] at hcx hxc hxl
      have hkc : (k : Int) ≤ (c : Int) := by omega
      clear hx hq
      go_wp2_with (go_at_call 20; (with_reducible refine (isWord_any Ai x ci q _ hbs Hq.out hxl).mono ?_); rintro e w2 (⟨rfl, hwx, rfl⟩ | ⟨rfl, rfl⟩))
      · have Hwx := hide hwx
        clear hwx
        go_loop [21] (fun i => ∃ j : Nat, j ≤ k ∧ i = .int .i64 j ∧ Hid (∀ t, t < j → ls[t]? ≠ some x)) (fun i => k - (intOf i).toNat)
        case atStart => exact ⟨0, Nat.zero_le _, rfl, fun j hj => absurd hj (by omega)⟩
        case round =>
          obtain ⟨j, hj, rfl, hne⟩ := hrel
          by_cases hjk : j < k
          · obtain ⟨y, hy⟩ : ∃ d, ls[j]? = some d := ⟨_, List.getElem?_eq_getElem (by have := Hn.out; omega)⟩
            obtain ⟨b1, o1, Aj, cj, e1, hcy, hyc, hbj⟩ := h j y hy
            obtain ⟨rfl, rfl⟩ : b = b1 ∧ o = o1 := by simpa using e1
            obtain ⟨qy, hqy⟩ : ∃ q, y.length = q := ⟨_, rfl⟩
            have Hy := hide hy
            have Hqy := hide hqy
            rw [hqy] at hcy
            clear hy hqy e1
            cases hxy : (x == y) with
            | true =>
              have Hxy := hide hxy
              clear hxy
              go_wp2_with (go_at_call 8; (with_reducible refine (same_n _ _ x y _ _ _ _ true _ Hxy.out Hq.out Hqy.out hbs hbj).mono ?_); rintro e w7 ⟨rfl, rfl⟩)
              go_ret
              exact .inr ⟨rfl, rfl⟩
            | false =>
              have Hxy := hide hxy
              clear hxy
              go_wp2_with (go_at_call 8; (with_reducible refine (same_n _ _ x y _ _ _ _ false _ Hxy.out Hq.out Hqy.out hbs hbj).mono ?_); rintro e w7 ⟨rfl, rfl⟩)
              go_round
              case rel => exact ⟨j + 1, by omega, by go_num, fun t ht e => by
                rcases Nat.lt_or_ge t j with h2 | h2
                · exact hne.out t h2 e
                · obtain rfl : t = j := by omega
                  rw [Hy.out] at e
                  injection e with e
                  subst e
                  have := Hxy.out
                  simp at this⟩
              case measure => simp [intOf]; omega
          · obtain rfl : j = k := by omega
            go_wp2
            go_round
            case rel => exact ⟨j + 1, by omega, by go_num, isw_snoc hw.out Hx.out Hwx.out, nodup_snoc hd.out Hx.out hne.out⟩
            case measure => simp [intOf]; omega
      · go_ret
        exact .inr ⟨rfl, rfl⟩
    · obtain rfl : k = n := by omega
      have e1 : ls.take k = ls := List.take_of_length_le (by have := Hn.out; omega)
      have H1 := hw.out
      have H2 := hd.out
      rw [e1] at H1 H2
      have HH1 := hide H1
      have HH2 := hide H2
      clear H1 H2 e1
      by_cases h10 : k ≤ 10
      · go_wp2
        go_ret
        exact .inl ⟨ret_bool (by first | rfl | (simp; done) | (simp; omega)), ⟨HH1.out, HH2.out, by rw [Hn.out]; exact h10⟩, rfl⟩
      · go_wp2
        go_ret
        exact .inr ⟨ret_bool (by first | rfl | (simp; done) | (simp; omega)), rfl⟩
end Go.Proofs.YtnepjlfkbmindaaDoor
