/- The package's reading of a number with decimals and groups of digits. Conditions: the text begins with such a number, below 10^15, and does not go on with one; the tables of runes are as laid. -/
import Derived.Test.YtgalfebplancdaaDoorGrp
import Derived.Test.YtgalfebplancdaaDoorDecR
import Derived.Deep.Cut
namespace Go.Proofs.YtgalfebplancdaaDoor
open Go.RowKit
set_option linter.unusedVariables false

theorem runO_chars {n k : Nat} {h : Bool} {l : List UInt8} {R : Nat × Nat × Bool} (e : runO n k h l = some R) : ∀ c ∈ l, isDig c = true ∨ c = 44 ∨ c = 46 := by
  induction l generalizing n k h with
  | nil => intro c hc; cases hc
  | cons d l ih =>
    intro c hc
    rw [runO] at e
    split at e
    · rename_i hd
      rcases List.mem_cons.1 hc with rfl | hc
      · exact .inl hd
      · exact ih e c hc
    · split at e
      · rename_i hd
        simp only [Bool.and_eq_true, Bool.or_eq_true, beq_iff_eq] at hd
        rcases List.mem_cons.1 hc with rfl | hc
        · exact .inr hd.1
        · exact ih e c hc
      · cases e
/-- Where the reading stands. -/
def ReadAt (m d : Nat) (t : List UInt8) (k num dec : Nat) (h : Bool) : Prop := k ≤ t.length ∧ ∃ H, runO num dec h (t.drop k) = some (m, d, H)
theorem ReadAt.start (m d size : Nat) : ReadAt m d (groupedU m d size) 0 0 0 false := ⟨Nat.zero_le _, run_grouped m d size⟩
theorem ReadAt.bd {m d k num dec : Nat} {t : List UInt8} {h : Bool} (r : ReadAt m d t k num dec h) : num ≤ m ∧ dec ≤ d := by
  obtain ⟨_, H, e⟩ := r
  have := runO_le _ e
  omega
theorem ReadAt.dig {m d k num dec : Nat} {t : List UInt8} {h : Bool} {c : UInt8} (r : ReadAt m d t k num dec h) (hc : t[k]? = some c) (hd : isDig c = true) : ReadAt m d t (k + 1) (num * 10 + (c.toNat - 48)) (if h then dec + 1 else dec) h := by
  obtain ⟨_, H, e⟩ := r
  obtain ⟨hk, e2⟩ := List.getElem?_eq_some_iff.1 hc
  rw [List.drop_eq_getElem_cons hk, e2, runO_dig hd] at e
  exact ⟨hk, H, e⟩
theorem ReadAt.sep {m d k num dec : Nat} {t : List UInt8} {h : Bool} {c : UInt8} (r : ReadAt m d t k num dec h) (hc : t[k]? = some c) (hd : isDig c = false) : h = false ∧ (c = 44 ∨ c = 46) ∧ ReadAt m d t (k + 1) num dec (c == 46) := by
  obtain ⟨_, H, e⟩ := r
  obtain ⟨hk, e2⟩ := List.getElem?_eq_some_iff.1 hc
  rw [List.drop_eq_getElem_cons hk, e2, runO, if_neg (by simp [hd])] at e
  split at e
  · rename_i hs
    simp only [Bool.and_eq_true, Bool.or_eq_true, beq_iff_eq, Bool.not_eq_true'] at hs
    exact ⟨hs.2, hs.1, hk, H, e⟩
  · cases e
theorem ReadAt.done {m d k num dec : Nat} {t : List UInt8} {h : Bool} (r : ReadAt m d t k num dec h) (hk : t.length ≤ k) : k = t.length ∧ num = m ∧ dec = d := by
  obtain ⟨hk2, H, e⟩ := r
  rw [List.drop_of_length_le hk, runO] at e
  simp only [Option.some.injEq, Prod.mk.injEq] at e
  exact ⟨by omega, e.1, e.2.1⟩
theorem grouped_head (m d size : Nat) : ∃ c, (groupedU m d size)[0]? = some c ∧ isDig c = true ∨ (groupedU m d size)[0]? = some c ∧ (c = 44 ∨ c = 46) := by
  obtain ⟨H, e⟩ := run_grouped m d size
  have hl : 0 < (groupedU m d size).length := by
    obtain ⟨p, hp⟩ := ints_suffix size (m / 10 ^ d / 10) 1 (lastD (m / 10 ^ d) :: frac m d)
    unfold groupedU
    rw [hp]; simp; omega
  have hc := runO_chars e _ (List.getElem_mem hl)
  refine ⟨(groupedU m d size)[0], ?_⟩
  rcases hc with h | h
  · exact .inl ⟨List.getElem?_eq_getElem hl, h⟩
  · exact .inr ⟨List.getElem?_eq_getElem hl, h⟩
/-- What ends a number: no digit, no comma, no point. -/
def Stops (r : List UInt8) : Prop := ∀ c, r[0]? = some c → isDig c = false ∧ c ≠ 44 ∧ c ≠ 46
theorem pn_no {c : UInt8} (h : isDig c = false) : (c.toNat : Int) < 48 ∨ 57 < (c.toNat : Int) := by
  simp only [isDig, Bool.and_eq_false_iff, decide_eq_false_iff_not, UInt8.le_iff_toNat_le] at h
  simp at h
  omega
theorem pn_yes {c : UInt8} (h : isDig c = true) : 48 ≤ (c.toNat : Int) ∧ (c.toNat : Int) ≤ 57 := by
  simp only [isDig, Bool.and_eq_true, decide_eq_true_eq, UInt8.le_iff_toNat_le] at h
  simp at h
  omega
/-- What is returned. -/
def PNRet (m d n : Nat) (w : World) (e : Ending) (w' : World) : Prop := e = .returned (.tuple #[.int .i64 (m : Int), .int .i64 (d : Int), .int .i64 (n : Int)]) ∧ Below w.heap.size w w'

set_option maxRecDepth 100000 in
set_option maxHeartbeats 2000000 in
theorem parseN_any (b o n c : Nat) (t r L : List UInt8) (m d : Nat) (w : World) (hL : t ++ r = L) (hn : L.length = n) (hs : BS w (some ⟨b, o, none⟩) L) (hc : n ≤ c) (h1 : n ≤ 2147483647) (hm : m < 1000000000000000) (hd : d ≤ 6)
    (hr : ReadAt m d t 0 0 0 false) (h45 : ∀ x, L[0]? = some x → x ≠ 45) (hst : Stops r) (ht : UTabs w) (h0 : 0 < n) :
    Calls Tryd.prog 10 #[.slice (some ⟨b, o, none⟩) n c, .int .i32 44, .int .i32 46] w (PNRet m d t.length w) := by
  obtain ⟨x0, hx0⟩ : ∃ x, L[0]? = some x := ⟨_, List.getElem?_eq_getElem (by omega)⟩
  have c0 : w.cell? ⟨b, o, none⟩ = some (.int .u8 (x0.toNat : Int)) := by
    obtain ⟨b1, o1, e, cell⟩ := hs.at_ hx0
    simp only [Option.some.injEq, Addr.mk.injEq, and_true] at e
    obtain ⟨rfl, rfl⟩ := e
    rw [Nat.add_zero] at cell
    exact cell
  have e45 : ((x0.toNat : Int) == 45) = false := by
    rw [beq_eq_false_iff_ne]
    intro e
    exact h45 x0 hx0 (UInt8.toNat_inj.1 (by simp; omega))
  have hT : t.length ≤ n := by rw [← hn, ← hL]; simp
  obtain ⟨T, hTl⟩ : ∃ T, t.length = T := ⟨_, rfl⟩
  rw [hTl] at hT
  have Hn := hide hn
  have HL := hide hL
  have Hs := hide hs
  have Hr := hide hr
  have Hst := hide hst
  have Ht := hide ht
  have HT := hide hTl
  have Hm := hide hm
  clear hn hL hs hr hst ht hx0 h45 hTl hm
  rw [HT.out]
  go_enter Tryd.func10, Tryd.ntmps10
  go_wp2
  clear c0 e45
  go_loop [9, 10, 12, 13] (fun i e v h => ∃ (k num dec : Nat) (hb : Bool), k ≤ T ∧ i = .int .i64 (k : Int) ∧ e = .int .i64 (dec : Int) ∧ v = .int .i64 (num : Int) ∧ h = .bool hb ∧ Hid (ReadAt m d t k num dec hb)) (fun i _ _ _ => n - (intOf i).toNat)
  case atStart => exact ⟨0, 0, 0, false, Nat.zero_le _, rfl, rfl, rfl, rfl, Hr⟩
  case round =>
    obtain ⟨k, num, dec, hb, hk, rfl, rfl, rfl, rfl, hat⟩ := hrel
    have hbd := hat.out.bd
    by_cases hlt : k < n
    · obtain ⟨x, hx⟩ : ∃ x, L[k]? = some x := ⟨_, List.getElem?_eq_getElem (by have := Hn.out; omega)⟩
      have cell1 : w.cell? ⟨b, o + k, none⟩ = some (.int .u8 (x.toNat : Int)) := by
        obtain ⟨b1, o1, e, cell⟩ := Hs.out.at_ hx
        simp only [Option.some.injEq, Addr.mk.injEq, and_true] at e
        obtain ⟨rfl, rfl⟩ := e
        exact cell
      have hx256 := x.toNat_lt
      have hdrop := Hs.out.cut rfl k
      have hdl : (L.drop k).length = n - k := by simp [Hn.out]
      have hd0 : (L.drop k)[0]? = some x := by simpa using hx
      have Hdrop := hide hdrop
      have Hdl := hide hdl
      have Hd0 := hide hd0
      clear hdrop hdl hd0
      have hck : ¬ c = k := by omega
      by_cases hkT : k < T
      · have htx : t[k]? = some x := by
          have := HT.out
          rw [← HL.out, List.getElem?_append_left (by omega)] at hx
          exact hx
        cases hdx : isDig x with
        | true =>
          obtain ⟨d1, d2⟩ := pn_yes hdx
          have hat2 := hat.out.dig htx hdx
          have hbd2 := hat2.bd
          have hnn : (((num * 10 + (x.toNat - 48) : Nat)) : Int) = (num : Int) * 10 + ((x.toNat : Int) - 48) := by omega
          have hmI : (m : Int) < 1000000000000000 := by have := Hm.out; omega
          have n1 : ¬ (922337203685477580 < (num : Int)) := by omega
          have n2 : ¬ (9223372036854775807 - ((x.toNat : Int) - 48) < (num : Int) * 10) := by omega
          have n3 : (num : Int) * 10 + ((x.toNat : Int) - 48) ≤ 9223372036854775807 := by omega
          have n4 : (num : Int) * 10 ≤ 9223372036854775807 := by omega
          have n5 : (dec : Int) ≤ 100 := by omega
          have Hat2 := hide hat2
          have Hnn := hide hnn
          clear hat2 hbd2 hnn hmI hx htx hdx hat hbd
          cases hb with
          | true =>
            go_wp2
            go_round
            case rel => exact ⟨k + 1, _, dec + 1, true, by omega, by go_num, by go_num, by rw [Hnn.out], rfl, Hat2⟩
            case measure => simp [intOf]; omega
          | false =>
            go_wp2
            go_round
            case rel => exact ⟨k + 1, _, dec, false, by omega, by go_num, rfl, by rw [Hnn.out], rfl, Hat2⟩
            case measure => simp [intOf]; omega
        | false =>
          obtain ⟨hb0, hsep, hat2⟩ := hat.out.sep htx hdx
          subst hb0
          have Hat2 := hide hat2
          have Hx := hide hx
          clear hx htx hdx hat hat2 hbd
          rcases hsep with rfl | rfl
          · have e46 : ((44 : UInt8) == 46) = false := rfl
            rw [e46] at Hat2
            simp only [show (((44 : UInt8).toNat : Nat) : Int) = 44 from rfl] at cell1
            go_wp2_with (go_at_call 11; ((with_reducible refine (decR_lo _ _ _ _ 44 _ cell1 (by omega) (by decide)).mono ?_); rintro e w1 ⟨rfl, rfl⟩))
            go_round
            case rel => exact ⟨k + 1, num, dec, false, by omega, by go_num, rfl, rfl, rfl, Hat2⟩
            case measure => simp [intOf]; omega
          · have e46 : ((46 : UInt8) == 46) = true := rfl
            rw [e46] at Hat2
            simp only [show (((46 : UInt8).toNat : Nat) : Int) = 46 from rfl] at cell1
            go_wp2_with (go_at_call 11; ((with_reducible refine (decR_lo _ _ _ _ 46 _ cell1 (by omega) (by decide)).mono ?_); rintro e w1 ⟨rfl, rfl⟩))
            go_round
            case rel => exact ⟨k + 1, num, dec, true, by omega, by go_num, rfl, rfl, rfl, Hat2⟩
            case measure => simp [intOf]; omega
      · obtain rfl : T = k := by omega
        obtain ⟨hkk, rfl, rfl⟩ := hat.out.done (by have := HT.out; omega)
        clear hkk
        have hrx : r[0]? = some x := by
          have := HT.out
          rw [← HL.out, List.getElem?_append_right (by omega), show T - t.length = 0 by omega] at hx
          exact hx
        obtain ⟨s1, s2, s3⟩ := Hst.out x hrx
        have s4 := pn_no s1
        clear hrx s1 hat hbd hx
        by_cases h128 : x.toNat < 128
        · have q1 : ((x.toNat : Int) == 44) = false := by rw [beq_eq_false_iff_ne]; intro e; exact s2 (UInt8.toNat_inj.1 (by simp; omega))
          have q2 : ((x.toNat : Int) == 46) = false := by rw [beq_eq_false_iff_ne]; intro e; exact s3 (UInt8.toNat_inj.1 (by simp; omega))
          have h128' : (x.toNat : Int) < 128 := by omega
          clear s2 s3
          rcases s4 with s4 | s4
          all_goals
            cases hb with
            | true =>
              go_wp2_with (go_at_call 11; ((with_reducible refine (decR_lo _ _ _ _ _ _ cell1 (by omega) (by omega)).mono ?_); rintro e w1 ⟨rfl, rfl⟩))
              go_ret3
              exact ⟨rfl, Below.refl _ _⟩
            | false =>
              go_wp2_with (go_at_call 11; ((with_reducible refine (decR_lo _ _ _ _ _ _ cell1 (by omega) (by omega)).mono ?_); rintro e w1 ⟨rfl, rfl⟩))
              go_ret3
              exact ⟨rfl, Below.refl _ _⟩
        · have h128' : 128 ≤ x.toNat := by omega
          have s5 : 57 < (x.toNat : Int) := by omega
          clear s2 s3 s4
          cases hb with
          | true =>
            go_wp2_with (go_at_call 11; ((with_reducible refine (decR_hi _ _ _ _ _ _ _ Hdl.out Hdrop.out Hd0.out h128' Ht.out).mono ?_); rintro e w1 ⟨r1, z1, g44, g46, rfl, hB⟩))
            go_ret3
            exact ⟨rfl, hB⟩
          | false =>
            go_wp2_with (go_at_call 11; ((with_reducible refine (decR_hi _ _ _ _ _ _ _ Hdl.out Hdrop.out Hd0.out h128' Ht.out).mono ?_); rintro e w1 ⟨r1, z1, g44, g46, rfl, hB⟩))
            go_ret3
            exact ⟨rfl, hB⟩
    · obtain rfl : T = k := by omega
      obtain ⟨hkk, rfl, rfl⟩ := hat.out.done (by have := HT.out; omega)
      clear hkk
      clear hat hbd
      go_wp2
      go_ret3
      exact ⟨rfl, Below.refl _ _⟩
end Go.Proofs.YtgalfebplancdaaDoor
