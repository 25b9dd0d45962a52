/- The package's reading of a data URI at one text that is one. Condition: the table of blanks as laid. -/
import Derived.Test.YtfghakcgpomdkaaDoorURI
namespace Go.Proofs.YtfghakcgpomdkaaDoor
open Go.RowKit
set_option linter.unusedVariables false

/-- No error comes back. -/
def GoodRet (w : World) (e : Ending) (w' : World) : Prop := (∃ A1 n1 c1 A2 n2 c2, e = .returned (.tuple #[.slice A1 n1 c1, .slice A2 n2 c2, .nilIface])) ∧ Below w.heap.size w w'
set_option maxRecDepth 100000 in
set_option maxHeartbeats 1000000 in
theorem uri_good (g : Nat) (w : World) (bs : BS w (some ⟨g, 0, none⟩) goodB) (ht : WsTab w) :
    Calls Tryd.prog 7 #[.slice (some ⟨g, 0, none⟩) 17 17] w (GoodRet w) := by
  have Ht := hide ht
  have Hbs := hide (bs.take 5)
  have Hne : Hid ((goodB.take 5 == dataB) = true) := hide rfl
  have Hrest : Hid (BS w (some ⟨g, 5, none⟩) restB) := hide (bs.cut rfl 5)
  clear bs ht
  go_enter Tryd.func7, Tryd.ntmps7
  go_wp2
  go_region_law (first
    | (go_simp; go_at_call 9; (with_reducible refine (scheme_any _).mono ?_); rintro e w1 ⟨rfl, hb1, hB1⟩; have hbs1 : BS w1 (some ⟨g, 0, none⟩) (goodB.take 5) := (BS.drew Hbs.out).below hB1; have hbd1 : BS w1 (some ⟨w.heap.size, 0, none⟩) dataB := hb1; have hrest1 : BS w1 (some ⟨g, 5, none⟩) restB := (BS.drew Hrest.out).below hB1; have ht1 : WsTab w1 := (TabOf.drewN Ht.out 1).below hB1)
    | (go_simp; go_at_call 8; (with_reducible refine (equal_any _ _ (goodB.take 5) dataB _ _ _ _ true _ Hne.out (by simp [goodB]) dataB_len hbs1 hbd1).mono ?_); rintro e w2 ⟨rfl, rfl⟩))
  have Hrest1 := hide hrest1
  have Ht1 := hide ht1
  have HB1 := hide hB1
  clear hbs1 hbd1 hrest1 ht1 hb1 hB1
  go_wp2
  go_loop [5, 6, 7, 8] (fun s m z i => s = .bool false ∧ m = .slice none 0 0 ∧ z = .int .i64 0 ∧ ∃ k : Nat, k ≤ 10 ∧ i = .int .i64 (k : Int)) (fun _ _ _ i => 12 - (intOf i).toNat)
  case atStart => exact ⟨rfl, rfl, rfl, 0, by omega, rfl⟩
  case round =>
    obtain ⟨rfl, rfl, rfl, k, hk, rfl⟩ := hrel
    by_cases hlt : k < 10
    · obtain ⟨x, hx, h61, h59, h44⟩ := kind_plain k hlt
      obtain ⟨b', o', e, hc⟩ := Hrest1.out.at_ hx
      simp only [Option.some.injEq, Addr.mk.injEq, and_true] at e
      obtain ⟨rfl, rfl⟩ := e
      clear hx
      go_wp2
      go_round
      case rel => exact ⟨rfl, rfl, rfl, k + 1, by omega, by go_num⟩
      case measure => simp [intOf]; omega
    · obtain rfl : k = 10 := by omega
      clear hlt
      have hc : w1.cell? ⟨g, 15, none⟩ = some (.int .u8 44) := by
        obtain ⟨b', o', e, hc⟩ := Hrest1.out.at_ (k := 10) rfl
        simp only [Option.some.injEq, Addr.mk.injEq, and_true] at e
        obtain ⟨rfl, rfl⟩ := e
        exact hc
      have Hkb : Hid (BS w1 (some ⟨g, 5, none⟩) kindB) := hide (Hrest1.out.take 10)
      go_wp2_with fail
      refine (trimI_any (some ⟨g, 5, none⟩) kindB _ _ Hkb.out (by decide) (by decide) Ht1.out).mono ?_
      rintro e w2 ⟨A', c', rfl, hbt, rfl⟩
      have Hbt : Hid (BS w1 A' kindB) := hide hbt
      clear hbt
      go_wp2_with fail
      refine (base64_any _).mono ?_
      rintro e w3 ⟨rfl, hb3, hB3⟩
      have hbt3 := Hbt.out.below hB3
      have hrest3 := Hrest1.out.below hB3
      go_wp2_with fail
      refine (equal_any _ _ kindB _ _ _ _ _ false _ (by rfl) (by rfl) (by rfl) hbt3 hb3).mono ?_
      rintro e w4 ⟨rfl, rfl⟩
      have Ht3 := hide (Ht1.out.below hB3)
      have Hrest3 := hide hrest3
      have HB3 := hide hB3
      clear hb3 hB3 hbt3 hrest3
      have Hkb3 : Hid (BS w3 (some ⟨g, 5, none⟩) kindB) := hide (Hrest3.out.take 10)
      go_wp2_with fail
      refine (trimI_any (some ⟨g, 5, none⟩) kindB _ _ Hkb3.out (by decide) (by decide) Ht3.out).mono ?_
      rintro e w5 ⟨A5, c5, rfl, hbt, rfl⟩
      have Hbt5 : Hid (BS w3 A5 kindB) := hide hbt
      have own0 := OwnB.nil w3 w3.heap.size
      obtain ⟨A2, c2, w4, hrun, own2, hg2, _⟩ := run_append8 (P := Tryd.prog) 22 22 Tryd.underlying22 u8_info own0 Hbt5.out 10 c5 rfl (by decide) (Nat.le_refl _)
      have hB4 := own0.bel (Below.refl w3.heap.size w3) hg2 (Nat.le_refl _)
      rw [Nat.zero_add] at hrun own2
      obtain ⟨b2, o2, rfl, hc2⟩ := own2.bs.at_ (k := 0) rfl
      rw [Nat.add_zero] at hc2
      have hc3 : w4.cell? ⟨b2, o2, none⟩ = some (.int .u8 116) := hc2
      have Hrun := hide hrun
      have Hrest4 : Hid (BS w4 (some ⟨g, 16, none⟩) [97]) := hide ((Hrest3.out.below hB4).cut rfl 11)
      have HB4 := hide hB4
      clear hbt hrun own0 own2 hg2 hc2 hB4
      go_wp2_with (first
        | (at_builtin; (with_reducible refine wpList_append_runG Hrun.out _ _ ?_ rfl rfl ?_ ?_ ?_); (rfl); (rfl); (rfl))
        | (go_at_call 15; (with_reducible refine (decode_a _ _ _ _ Hrest4.out).mono ?_); rintro e w6 ⟨rfl, rfl⟩))
      have B1 : Below w.heap.size w w1 := (below_drewN (Below.refl _ w) 1).trans HB1.out
      have B3 : Below w.heap.size w w3 := B1.trans (HB3.out.mono B1.size)
      have B4 : Below w.heap.size w w4 := B3.trans (HB4.out.mono B3.size)
      exact bodyPost_ret (v := .tuple #[.slice (some ⟨b2, o2, none⟩) 10 c2, .slice (some ⟨g, 16, none⟩) 1 1, .nilIface]) (by simp [results, Tryd.results7, go_sem]) rfl ⟨⟨_, _, _, _, _, _, rfl⟩, B4⟩
end Go.Proofs.YtfghakcgpomdkaaDoor
