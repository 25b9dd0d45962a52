/- Small letters of a whole text: in place (on a block known whole), and by appending. Conditions: the lists are shorter than 2^31. -/
import Derived.Test.YtnhkhfbiknffpaaLow
namespace Go.Proofs.Ytnhkhfbiknffpaa
open Go.RowKit
set_option linter.unusedVariables false

theorem lowB_cap {c : UInt8} (h1 : 65 ≤ c.toNat) (h2 : c.toNat ≤ 90) : ((lowB c).toNat : Int) = (c.toNat : Int) + 32 := by
  have := lowB_yes h1 h2
  omega
theorem low_step {l : List UInt8} {k : Nat} {d : UInt8} (hd : l[k]? = some d) : ((l.take k).map lowB ++ l.drop k).set k (lowB d) = (l.take (k + 1)).map lowB ++ l.drop (k + 1) := by
  obtain ⟨hk, e⟩ := List.getElem?_eq_some_iff.1 hd
  have hl : ((l.take k).map lowB).length = k := by simp; omega
  rw [List.set_append_right _ _ (by omega), hl, Nat.sub_self, List.drop_eq_getElem_cons hk, List.set_cons_zero, List.take_succ_eq_append_getElem hk, e]
  simp
theorem low_keep {l : List UInt8} {k : Nat} {d : UInt8} (hd : l[k]? = some d) (hn : lowB d = d) : (l.take k).map lowB ++ l.drop k = (l.take (k + 1)).map lowB ++ l.drop (k + 1) := by
  obtain ⟨hk, e⟩ := List.getElem?_eq_some_iff.1 hd
  rw [List.drop_eq_getElem_cons hk, List.take_succ_eq_append_getElem hk, e]
  simp [hn]
theorem low_at {l : List UInt8} {k : Nat} {d : UInt8} (hd : l[k]? = some d) : ((l.take k).map lowB ++ l.drop k)[k]? = some d := by
  obtain ⟨hk, e⟩ := List.getElem?_eq_some_iff.1 hd
  have hl : ((l.take k).map lowB).length = k := by simp; omega
  rw [List.getElem?_append_right (by omega), hl, Nat.sub_self, List.getElem?_drop]
  simpa using hd
theorem low_snoc {l out : List UInt8} {k : Nat} {d : UInt8} (hd : l[k]? = some d) (h : out = (l.take k).map lowB) : out ++ [lowB d] = (l.take (k + 1)).map lowB := by
  obtain ⟨hk, e⟩ := List.getElem?_eq_some_iff.1 hd
  rw [h, List.take_succ_eq_append_getElem hk, e]
  simp

set_option maxHeartbeats 400000 in
theorem toLower_any (g : Nat) (l : List UInt8) (c : Nat) (w : World) (hg : Blk8 w g l) (h1 : l.length ≤ 2147483647) :
    Calls Try.prog 16 #[.slice (some ⟨g, 0, none⟩) l.length c] w fun e w' =>
      e = .returned (.slice (some ⟨g, 0, none⟩) l.length c) ∧ Blk8 w' g (l.map lowB) ∧ w.grownBy w' (some g) := by
  go_enter Try.func16, Try.ntmps16
  go_wp2
  go_loopw [7] (fun i wr => ∃ k : Nat, k ≤ l.length ∧ i = .int .i64 k ∧ Hid (Blk8 wr g ((l.take k).map lowB ++ l.drop k)) ∧ w.grownBy wr (some g)) (fun i _ => l.length - (intOf i).toNat)
  case atStart => exact ⟨0, Nat.zero_le _, rfl, hide (by simpa using hg), World.grownBy.refl _ _⟩
  case round =>
    obtain ⟨k, hk, rfl, hb, hgr⟩ := hrel
    by_cases hlt : k < l.length
    · obtain ⟨d, hd⟩ : ∃ x, l[k]? = some x := ⟨_, List.getElem?_eq_getElem hlt⟩
      have cell1 := hb.out.cell (low_at hd)
      have frz1 := hb.out.frozen k
      have Hd := hide hd
      clear hd
      have hlt256 := d.toNat_lt
      by_cases e1 : 65 ≤ d.toNat
      · by_cases e2 : d.toNat ≤ 90
        · have hst := hb.out.set_ k (lowB d)
          rw [lowB_cap e1 e2, low_step Hd.out] at hst
          have Hst := hide hst
          clear hst
          have hgr2 := grown_set hgr (p := ⟨g, k, none⟩) (.inl rfl) (.int .u8 ((d.toNat : Int) + 32))
          go_wp2
          go_roundw
          case rel => exact ⟨k + 1, by omega, by go_num, Hst, hgr2⟩
          case measure => simp [intOf]; omega
        · go_wp2
          go_roundw
          case rel => exact ⟨k + 1, by omega, by go_num, by rw [← low_keep Hd.out (lowB_no (fun h => e2 h.2))]; exact hb, hgr⟩
          case measure => simp [intOf]; omega
      · go_wp2
        go_roundw
        case rel => exact ⟨k + 1, by omega, by go_num, by rw [← low_keep Hd.out (lowB_no (fun h => e1 h.1))]; exact hb, hgr⟩
        case measure => simp [intOf]; omega
    · obtain rfl : k = l.length := by omega
      have H2 := hb.out
      simp only [List.take_length, List.drop_length, List.append_nil] at H2
      have H3 := hide H2
      clear H2
      go_wp2
      go_ret
      exact ⟨rfl, H3.out, hgr⟩

set_option maxHeartbeats 400000 in
theorem lowered_any (A : Option Addr) (l : List UInt8) (c : Nat) (w : World) (hs : BS w A l) (h1 : l.length ≤ 2147483647) :
    Calls Try.prog 12 #[.slice A l.length c] w fun e w' => ∃ A' c', e = .returned (.slice A' l.length c') ∧ BS w' A' (l.map lowB) ∧ Below w.heap.size w w' := by
  go_enter Try.func12, Try.ntmps12
  go_wp2
  go_loopw [3, 9] (fun v i wr => ∃ (k : Nat) (A' : Option Addr) (c' : Nat) (out : List UInt8), k ≤ l.length ∧ i = .int .i64 k ∧ v = .slice A' k c' ∧ OwnB wr w.heap.size A' k c' out ∧ Hid (out = (l.take k).map lowB) ∧ Below w.heap.size w wr)
    (fun _ i _ => l.length - (intOf i).toNat)
  case atStart => exact ⟨0, _, _, [], Nat.zero_le _, rfl, rfl, OwnB.empty w (Nat.le_refl _) rfl, hide rfl, (Below.refl _ _).alloc (Nat.le_refl _) _⟩
  case round =>
    obtain ⟨k, A', c', out, hk, rfl, rfl, own, ho, hbel⟩ := hrel
    by_cases hlt : k < l.length
    · obtain ⟨d, hd⟩ : ∃ x, l[k]? = some x := ⟨_, List.getElem?_eq_getElem hlt⟩
      obtain ⟨b1, o1, rfl, cell1⟩ := (hs.below hbel).at_ hd
      have hsz := hbel.size
      obtain ⟨A2, c2, w2, hrun, own2, hg2, _⟩ := run_append8 (P := Try.prog) 22 22 Try.underlying22 u8_info (own.alloc (.cells #[.int .u8 ((lowB d).toNat : Int)] 5)) (BS.lit rfl [lowB d] _ 5 (0, 0) rfl) 1 1 rfl (by omega) (by simp; omega)
      have hbel2 := (own.alloc (.cells #[.int .u8 ((lowB d).toNat : Int)] 5)).bel (hbel.alloc hsz _) hg2 (by simp; omega)
      have Ho2 := hide (low_snoc hd ho.out)
      have Hd := hide hd
      clear hd hg2 hbel own ho
      have Hrun := hide hrun
      clear hrun
      go_wp2_with (first
        | (go_at_call 14; refine (lower_any _ _).mono ?_; rintro e w' ⟨rfl, rfl⟩)
        | (at_builtin; refine wpList_append_run Hrun.out rfl _ _ rfl rfl rfl rfl ?_))
      go_roundw
      case rel => exact ⟨k + 1, A2, c2, _, by omega, by go_num, rfl, own2, Ho2, hbel2⟩
      case measure => simp [intOf]; omega
    · obtain rfl : k = l.length := by omega
      have H2 := ho.out
      rw [List.take_length] at H2
      have H3 := hide H2
      clear H2
      go_wp2
      go_ret
      exact ⟨A', c', rfl, by rw [← H3.out]; exact own.bs, hbel⟩
end Go.Proofs.Ytnhkhfbiknffpaa
