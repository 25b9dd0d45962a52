/- The walk of 'laws.FnAllBlank': it returns true for every list of bytes. Condition: the table's cells; the list is within its capacity. -/
import Derived.Test.YtnhkhfbiknffpaaDoorTrimS
import Derived.LaidMore
namespace Go.Proofs.YtnhkhfbiknffpaaDoor
open Go.RowKit
set_option linter.unusedVariables false

set_option maxHeartbeats 400000 in
theorem allWs_any (A : Option Addr) (s : List UInt8) (c : Nat) (w : World) (hs : BS w A s) (h1 : s.length ≤ 2147483647) (ht : WsTab w) :
    Calls Tryd.prog 12 #[.slice A s.length c] w fun e w' => e = .returned (.bool (s.all isBl)) ∧ w = w' := by
  have Ht := hide ht
  clear ht
  go_enter Tryd.func12, Tryd.ntmps12
  go_wp2
  go_loop [7] (fun i => ∃ k : Nat, k ≤ s.length ∧ i = .int .i64 k ∧ AllTo isBl s k) (fun i => s.length - (intOf i).toNat)
  case atStart => exact ⟨0, Nat.zero_le _, rfl, AllTo.zero _ _⟩
  case round =>
    obtain ⟨k, hk, rfl, hto⟩ := hrel
    by_cases hlt : k < s.length
    · obtain ⟨d', hd'⟩ : ∃ x, s[k]? = some x := ⟨_, List.getElem?_eq_getElem hlt⟩
      obtain ⟨b1, o1, rfl, cell1⟩ := hs.at_ hd'
      cases hb : isBl d' with
      | true =>
        have Hto := hide (hto.succ hd' hb)
        have Hb := hide hb
        clear hd' hb hto
        go_wp2_with (go_at_call 10; refine (isWs_n _ true _ Hb.out Ht.out).mono ?_; rintro e w' ⟨rfl, rfl⟩)
        go_round
        case rel => exact ⟨k + 1, by omega, by go_num, Hto.out⟩
        case measure => simp [intOf]; omega
      | false =>
        have Hf := hide (all_false hd' hb)
        have Hb := hide hb
        clear hd' hb hto
        go_wp2_with (go_at_call 10; refine (isWs_n _ false _ Hb.out Ht.out).mono ?_; rintro e w' ⟨rfl, rfl⟩)
        go_ret
        exact ⟨ret_bool Hf.out.symm, rfl⟩
    · go_wp2
      go_ret
      exact ⟨ret_bool (all_true (by omega) hto).symm, rfl⟩
theorem allWsI_n (A : Option Addr) (s : List UInt8) (n c : Nat) (b : Bool) (w : World) (hb : s.all isBl = b) (hn : s.length = n) (hs : BS w A s) (h1 : n ≤ 2147483647) (ht : WsTab w) :
    Calls Tryd.prog 8 #[.slice A n c] w fun e w' => e = .returned (.bool b) ∧ w = w' := by
  subst hb hn
  go_enter Tryd.func8, Tryd.ntmps8
  go_wp2_with (go_at_call 12; refine (allWs_any _ _ _ _ hs h1 ht).mono ?_; rintro e w1 ⟨rfl, rfl⟩)
  go_ret
  exact ⟨rfl, rfl⟩
theorem allBlank_any (A : Option Addr) (s : List UInt8) (c : Nat) (w : World) (hs : BS w A s) (h1 : s.length ≤ 2147483647) (h2 : s.length ≤ c) :
    Calls Tryd.prog 9 #[.slice A s.length c] w fun e w' => e = .returned (.bool (s.all isBl)) ∧ w = w' := by
  have H := hide (trim_nil_iff s)
  go_enter Tryd.func9, Tryd.ntmps9
  go_wp2_with (go_at_call 13; refine (trimS_any _ _ _ _ hs h1 h2).mono ?_; rintro e w1 ⟨A', c', rfl, hb, rfl⟩)
  go_ret
  exact ⟨ret_bool (by rw [← H.out, Bool.eq_iff_iff]; simp), rfl⟩

set_option maxHeartbeats 400000 in
theorem fnAllBlank_walk (a : Option Addr) (l : List UInt8) (c : Nat) (W : World) (bs : BS W a l) (hc : l.length ≤ c) (ht : WsTab W) :
    Calls Tryd.prog 4 #[.slice a l.length c] W fun e w' => e = .returned (.bool true) ∧ Below W.heap.size W w' := by
  have Ht := hide ht
  clear ht
  by_cases h1 : 2147483647 < l.length
  · go_enter Tryd.func4, Tryd.ntmps4
    go_wp2
    go_ret
    exact ⟨rfl, Below.refl _ _⟩
  · by_cases h2 : 5000 < l.length
    · go_enter Tryd.func4, Tryd.ntmps4
      go_wp2
      go_ret
      exact ⟨rfl, Below.refl _ _⟩
    · have kc := fun n c C => run_bytes_lit (P := Tryd.prog) 23 5 Tryd.underlying23 Tryd.underlying5 W W.heap.size n c C rfl
      go_enter Tryd.func4, Tryd.ntmps4
      go_wp2_with fail
      refine (allWsI_n _ [32, 10] _ _ true _ (by rfl) (by rfl) ?_ (by decide) (Ht.out.alloc _)).mono ?_
      · exact BS.lit rfl [32, 10] _ _ _ rfl
      rintro e w1 ⟨rfl, rfl⟩
      go_wp2_with fail
      refine (allWsI_n _ l _ _ _ _ rfl rfl (bs.alloc _) (by omega) (Ht.out.alloc _)).mono ?_
      rintro e w1 ⟨rfl, rfl⟩
      go_wp2_with fail
      refine (allBlank_any _ l _ _ (bs.alloc _) (by omega) hc).mono ?_
      rintro e w1 ⟨rfl, rfl⟩
      go_wp2
      go_ret
      exact ⟨ret_bool (by simp), (Below.refl _ _).alloc (Nat.le_refl _) _⟩

theorem gWs : Tryd.prog.globalNamed "loop.example/pub-g01476/pub/tdparse.whitespaceTable" = some 0 := by kernel_rfl
theorem tWs : (Tryd.prog.globals[0]?).map (·.type) = some 26 := by kernel_rfl
theorem dWs {H : Type} : (Rows.laid_loop_example_pub_g01476_pub_tdparse_whitespaceTable : DataW H) = .agg ((tabList isBl).map fun z => .lit (.bool z)) := by kernel_rfl
theorem fnAllBlank_ws {W : World} (h : laidMetH Tryd.prog Rows.fnAllBlankRow.laid W) : WsTab W := by
  rw [MakeChecks.laidMetH_plain _ _ _ (by kernel_rfl)] at h
  obtain ⟨ps, ⟨g0, t0, cs0, f0, p0, q0, hg0, ht0, hv0, hd0, _, _⟩, _, _⟩ := h
  obtain rfl := Option.some.inj (gWs.symm.trans hg0)
  obtain rfl := Option.some.inj (tWs.symm.trans ht0)
  rw [dWs] at hd0
  exact tabOf_list gWs hv0 Tryd.underlying26 Tryd.underlying4 (by kernel_rfl) (by kernel_rfl) hd0
end Go.Proofs.YtnhkhfbiknffpaaDoor
