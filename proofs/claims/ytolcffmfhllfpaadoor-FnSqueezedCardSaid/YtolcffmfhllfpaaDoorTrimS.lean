/- The reference's trimming: the slice that it returns reads as the trimmed text. Conditions: the list is shorter than 2^31 and within its capacity. -/
import Derived.Test.YtolcffmfhllfpaaDoorTab
import Derived.Test.YtolcffmfhllfpaaDoorAll
namespace Go.Proofs.YtolcffmfhllfpaaDoor
open Go.RowKit
set_option linter.unusedVariables false

theorem isBlS_n (c : UInt8) (b : Bool) (w : World) (hb : isBl c = b) :
    Calls Tryd.prog 11 #[.int .u8 (c.toNat : Int)] w fun e w' => e = .returned (.bool b) ∧ w = w' := by
  subst hb
  exact isBlS_any c w
theorem isWs_n (c : UInt8) (b : Bool) (w : World) (hb : isBl c = b) (ht : WsTab w) :
    Calls Tryd.prog 14 #[.int .u8 (c.toNat : Int)] w fun e w' => e = .returned (.bool b) ∧ w = w' := by
  subst hb
  exact isWs_any c w ht
def NotAt (f : UInt8 → Bool) (l : List UInt8) (k : Nat) : Prop := ∀ c, l[k]? = some c → f c = false
theorem trim_cut {l : List UInt8} {s e : Nat} (hs : s ≤ e) (he : e ≤ l.length) (h1 : AllTo isBl l s) (h2 : AllFrom isBl l e) (h3 : NotAt isBl l s) (h4 : s < e → NotAt isBl l (e - 1)) : (l.drop s).take (e - s) = trim l :=
  trim_of l s e hs he (fun j c hj hc => h1 j hj c hc) (fun j c hj hc => h2 j hj c hc) (fun h => ⟨h3, h4 h⟩)
theorem trim_len {l : List UInt8} {s e : Nat} (hs : s ≤ e) (he : e ≤ l.length) (h : (l.drop s).take (e - s) = trim l) : (trim l).length = e - s := by
  rw [← h]; simp; omega

/-- The slice that a trimming returns. -/
def TrimRet (l : List UInt8) (w : World) (e : Ending) (w' : World) : Prop := ∃ A' c', e = .returned (.slice A' (trim l).length c') ∧ BS w A' (trim l) ∧ w = w'

set_option maxHeartbeats 400000 in
theorem trimS_nil (A : Option Addr) (c : Nat) (w : World) :
    Calls Tryd.prog 7 #[.slice A 0 c] w (TrimRet [] w) := by
  obtain ⟨A', hrun, hbs, _⟩ := run_cut8 (P := Tryd.prog) 22 Tryd.underlying22 (by kernel_rfl) (BS.nil w A) c 0 0 (Nat.le_refl _) (by simp) (by simp)
  have Hrun := hide (hrun .i64 .i64)
  clear hrun
  go_enter Tryd.func7, Tryd.ntmps7
  go_wp2
  go_loop [3] (fun i => i = .int .i64 0) (fun i => 0)
  case atStart => rfl
  case round =>
    obtain rfl := hrel
    go_wp2
    go_loop [4] (fun i => i = .int .i64 0) (fun i => 0)
    case atStart => rfl
    case round =>
      obtain rfl := hrel
      go_wp2_with (refine wpList_slice_run Hrun.out rfl _ _ _ rfl rfl rfl rfl ?_)
      go_ret
      exact ⟨A', _, rfl, BS.nil _ _, rfl⟩

set_option maxHeartbeats 1000000 in
theorem trimS_some (b o : Nat) (l : List UInt8) (c : Nat) (w : World) (hs : BS w (some ⟨b, o, none⟩) l) (h1 : l.length ≤ 2147483647) (h2 : l.length ≤ c) (h0 : 0 < l.length) :
    Calls Tryd.prog 7 #[.slice (some ⟨b, o, none⟩) l.length c] w (TrimRet l w) := by
  have hcell : ∀ {k : Nat} {d : UInt8}, l[k]? = some d → w.cell? ⟨b, o + k, none⟩ = some (.int .u8 (d.toNat : Int)) := fun {k d} hd => by
    obtain ⟨b1, o1, e, cell1⟩ := hs.at_ hd
    simp only [Option.some.injEq, Addr.mk.injEq, and_true] at e
    obtain ⟨rfl, rfl⟩ := e
    exact cell1
  have Hcell := @hide _ @hcell
  clear hcell
  go_enter Tryd.func7, Tryd.ntmps7
  go_wp2
  go_loop [3] (fun i => ∃ k : Nat, k ≤ l.length ∧ i = .int .i64 k ∧ AllTo isBl l k) (fun i => l.length - (intOf i).toNat)
  case atStart => exact ⟨0, Nat.zero_le _, rfl, AllTo.zero _ _⟩
  case round =>
    obtain ⟨k, hk, rfl, hto⟩ := hrel
    by_cases hc : ∃ d, l[k]? = some d ∧ isBl d = true
    · obtain ⟨d, hd, hb⟩ := hc
      obtain ⟨hlt, _⟩ := List.getElem?_eq_some_iff.1 hd
      have cell1 := Hcell.out hd
      have Hb := hide hb
      have Hto := hide (hto.succ hd hb)
      clear hd hb hto
      go_wp2_with (go_at_call 11; refine (isBlS_n _ true _ Hb.out).mono ?_; rintro e w' ⟨rfl, rfl⟩)
      go_round
      case rel => exact ⟨k + 1, by omega, by go_num, Hto.out⟩
      case measure => simp [intOf]; omega
    · have hna : NotAt isBl l k := fun c hc1 => by
        cases hb : isBl c with
        | false => rfl
        | true => exact absurd ⟨c, hc1, hb⟩ hc
      clear hc
      obtain ⟨d, hd⟩ : ∃ d, k < l.length → l[k]? = some d := by
        rcases Nat.lt_or_ge k l.length with h | h
        · exact ⟨_, fun _ => List.getElem?_eq_getElem h⟩
        · exact ⟨0, fun h' => absurd h' (by omega)⟩
      have cell1 : k < l.length → w.cell? ⟨b, o + k, none⟩ = some (.int .u8 (d.toNat : Int)) := fun h => Hcell.out (hd h)
      have Hb : Hid (k < l.length → isBl d = false) := fun h => hna d (hd h)
      clear hd
      go_wp2_with (go_at_call 11; refine (isBlS_n _ false _ (Hb.out (by omega))).mono ?_; rintro e w' ⟨rfl, rfl⟩)
      all_goals
        clear cell1 Hb
        go_loop [4] (fun i => ∃ m : Nat, k ≤ m ∧ m ≤ l.length ∧ i = .int .i64 m ∧ AllFrom isBl l m) (fun i => (intOf i).toNat - k)
        case atStart => exact ⟨l.length, hk, Nat.le_refl _, rfl, AllFrom.end_ _ _⟩
        case round =>
          obtain ⟨m, hkm, hm, rfl, hfr⟩ := hrel
          by_cases hc : k < m ∧ ∃ d, l[m - 1]? = some d ∧ isBl d = true
          · obtain ⟨hkm2, d, hd, hb⟩ := hc
            obtain ⟨m', rfl⟩ : ∃ m', m = m' + 1 := ⟨m - 1, by omega⟩
            rw [Nat.add_sub_cancel] at hd
            have cell2 := Hcell.out hd
            have Hb := hide hb
            have Hfr := hide (hfr.pred hd hb)
            clear hd hb hfr
            first
            | (exfalso; omega)
            | (go_wp2_with (go_at_call 11; refine (isBlS_n _ true _ Hb.out).mono ?_; rintro e w' ⟨rfl, rfl⟩)
               go_round
               case rel => exact ⟨m', by omega, by omega, by go_num, Hfr.out⟩
               case measure => simp [intOf]; omega)
          · have hnb : k < m → NotAt isBl l (m - 1) := fun hkm2 c hc1 => by
              cases hb : isBl c with
              | false => rfl
              | true => exact absurd ⟨hkm2, c, hc1, hb⟩ hc
            clear hc
            have Ht := hide (trim_cut hkm hm hto hfr hna hnb)
            obtain ⟨A', hrun, hbs, _⟩ := run_cut8 (P := Tryd.prog) 22 Tryd.underlying22 (by kernel_rfl) hs c k m hkm hm h2
            have Hrun := hide (hrun .i64 .i64)
            clear hrun
            have Hn := hide (trim_len hkm hm Ht.out)
            rw [Ht.out] at hbs
            obtain ⟨d, hd⟩ : ∃ d, k < m → l[m - 1]? = some d := by
              rcases Nat.lt_or_ge (m - 1) l.length with h | h
              · exact ⟨_, fun _ => List.getElem?_eq_getElem h⟩
              · exact ⟨0, fun h' => absurd h' (by omega)⟩
            have cell2 : k < m → w.cell? ⟨b, o + (m - 1), none⟩ = some (.int .u8 (d.toNat : Int)) := fun h => Hcell.out (hd h)
            have Hb : Hid (k < m → isBl d = false) := fun h => hnb h d (hd h)
            clear hd hnb
            go_wp2_with (first
              | (go_at_call 11; refine (isBlS_n _ false _ (Hb.out (by omega))).mono ?_; rintro e w' ⟨rfl, rfl⟩)
              | (refine wpList_slice_run Hrun.out rfl _ _ _ rfl rfl rfl rfl ?_))
            all_goals go_ret
            all_goals exact ⟨A', _, by rw [Hn.out]; rfl, hbs, rfl⟩

theorem trimS_any (A : Option Addr) (l : List UInt8) (c : Nat) (w : World) (hs : BS w A l) (h1 : l.length ≤ 2147483647) (h2 : l.length ≤ c) :
    Calls Tryd.prog 7 #[.slice A l.length c] w (TrimRet l w) := by
  rcases Nat.eq_zero_or_pos l.length with h0 | h0
  · obtain rfl : l = [] := List.eq_nil_of_length_eq_zero h0
    exact trimS_nil A c w
  · obtain ⟨b, o, rfl, _, _⟩ := hs.form h0
    exact trimS_some b o l c w hs h1 h2 h0
end Go.Proofs.YtolcffmfhllfpaaDoor
