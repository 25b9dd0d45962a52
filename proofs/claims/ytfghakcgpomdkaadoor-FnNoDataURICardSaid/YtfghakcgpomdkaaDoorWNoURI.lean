/- The walk of 'laws.FnNoDataURI': it returns true for every list of bytes. Condition: the error variable and the table of blanks as laid; the list is within its capacity. -/
import Derived.Test.YtfghakcgpomdkaaDoorFoldS
import Derived.Test.YtfghakcgpomdkaaDoorURG
import Derived.LaidMore
import Derived.LaidLaws
namespace Go.Proofs.YtfghakcgpomdkaaDoor
open Go.RowKit
set_option linter.unusedVariables false

theorem err_t : Tryd.prog.underlying 29 = some (.interface #[("Error", 59)]) := by kernel_rfl
theorem iURI_bad (A : Option Addr) (l : List UInt8) (c : Nat) (w : World) (T : TypeId) (a : Addr)
    (h : Calls Tryd.prog 7 #[.slice A l.length c] w (BadRet T a w)) :
    Calls Tryd.prog 5 #[.slice A l.length c] w fun e w' => e = .returned (.tuple #[.slice none 0 0, .slice none 0 0, .bool false]) ∧ Below w.heap.size w w' := by
  go_enter Tryd.func5, Tryd.ntmps5
  go_wp2_with fail
  refine h.mono ?_
  rintro e w1 ⟨rfl, hB⟩
  go_wp2
  go_quiet (fail)
  go_wp2
  exact bodyPost_ret (v := .tuple #[.slice none 0 0, .slice none 0 0, .bool false]) (by simp [results, Tryd.results5, go_sem]) rfl ⟨rfl, below_drewN hB _⟩
theorem iURI_good (g : Nat) (w : World) (bs : BS w (some ⟨g, 0, none⟩) goodB) (ht : WsTab w) :
    Calls Tryd.prog 5 #[.slice (some ⟨g, 0, none⟩) 17 17] w fun e w' => (∃ A1 n1 c1 A2 n2 c2, e = .returned (.tuple #[.slice A1 n1 c1, .slice A2 n2 c2, .bool true])) ∧ Below w.heap.size w w' := by
  go_enter Tryd.func5, Tryd.ntmps5
  go_wp2_with fail
  refine (uri_good g w bs ht).mono ?_
  rintro e w1 ⟨⟨A1, n1, c1, A2, n2, c2, rfl⟩, hB⟩
  go_wp2
  go_quiet (fail)
  go_wp2
  exact bodyPost_ret (v := .tuple #[.slice A1 n1 c1, .slice A2 n2 c2, .bool true]) (by simp [results, Tryd.results5, go_sem]) rfl ⟨⟨_, _, _, _, _, _, rfl⟩, below_drewN hB _⟩
theorem fold_same {l : List UInt8} (h : eqBy okS (l.take 5) dataB = false) : (l.take 5 == dataB) = false := by
  rw [beq_eq_false_iff_ne]
  intro e
  rw [e] at h
  exact absurd h (by decide)
theorem efS_n (A B : Option Addr) (s t : List UInt8) (n m c d : Nat) (r : Bool) (w : World) (hr : eqBy okS s t = r) (hn : s.length = n) (hm : t.length = m) (hs : BS w A s) (ht : BS w B t) (h1 : n ≤ 2147483647) (h2 : m ≤ 2147483647) :
    Calls Tryd.prog 4 #[.slice A n c, .slice B m d] w fun e w' => e = .returned (.bool r) ∧ ∃ k, w' = w.drewN k := by
  subst hr hn hm
  exact efS_any A B s t c d w hs ht h1 h2
set_option maxHeartbeats 1000000 in
theorem fnNoDataURI_walk (A : Option Addr) (l : List UInt8) (c : Nat) (W : World) (bs : BS W A l) (hc : l.length ≤ c) (hbad : ∃ T a, Bad W T a) (ht : WsTab W) :
    Calls Tryd.prog 3 #[.slice A l.length c] W fun e w' => e = .returned (.bool true) ∧ Below W.heap.size W w' := by
  obtain ⟨T, a, hb⟩ := hbad
  have Ht := hide ht
  have Hb := hide hb
  clear ht hb
  by_cases h1 : 2147483647 < l.length
  · go_enter Tryd.func3, Tryd.ntmps3
    go_wp2
    go_ret
    exact ⟨rfl, Below.refl _ _⟩
  · by_cases h2 : 5000 < l.length
    · go_enter Tryd.func3, Tryd.ntmps3
      go_wp2
      go_ret
      exact ⟨rfl, Below.refl _ _⟩
    · have k0 : decide ((5000 : Int) < (l.length : Int)) = false := decide_eq_false (by omega)
      by_cases h5 : 5 ≤ l.length
      · obtain ⟨b, o, rfl, _, _⟩ := bs.form (by omega)
        have k5 : decide ((5 : Int) ≤ (l.length : Int)) = true := decide_eq_true (by omega)
        have kc5 : (5 : Int) ≤ (c : Int) := by omega
        have kc := fun n c C => run_bytes_lit (P := Tryd.prog) 22 5 Tryd.underlying22 Tryd.underlying5 W W.heap.size n c C rfl
        cases hr : eqBy okS (l.take 5) dataB with
        | true =>
          have Hr := hide hr
          clear hr
          go_enter Tryd.func3, Tryd.ntmps3
          go_wp2_with fail
          refine (efS_n _ _ (l.take 5) dataB _ _ _ _ true _ Hr.out (by simp; omega) (by rfl) ((bs.alloc _).take 5) (BS.lit rfl dataB _ _ _ rfl) (by omega) (by omega)).mono ?_
          rintro e w1 ⟨rfl, q, rfl⟩
          go_wp2
          go_ret
          exact ⟨rfl, below_drewN ((Below.refl _ _).alloc (Nat.le_refl _) _) _⟩
        | false =>
          have Hr := hide (fold_same hr)
          have Hr0 := hide hr
          clear hr
          go_enter Tryd.func3, Tryd.ntmps3
          go_wp2_with fail
          refine (efS_n _ _ (l.take 5) dataB _ _ _ _ false _ Hr0.out (by simp; omega) (by rfl) ((bs.alloc _).take 5) (BS.lit rfl dataB _ _ _ rfl) (by omega) (by omega)).mono ?_
          rintro e w1 ⟨rfl, q, hq⟩
          have hB1 : Below W.heap.size W w1 := by rw [hq]; exact below_drewN ((Below.refl _ _).alloc (Nat.le_refl _) _) _
          clear hq kc
          have bs1 := bs.below hB1
          have Hb1 := hide (Hb.out.below hB1)
          have Ht1 := hide (Ht.out.below hB1)
          have HB1 := hide hB1
          clear bs hB1
          go_wp2_with fail
          refine (iURI_bad _ l _ _ T a (by
            by_cases h6 : 5 < l.length
            · exact uri_other b o l c _ T a bs1 hc h6 (by omega) Hr.out Hb1.out
            · exact uri_short _ l c _ T a (by omega) Hb1.out)).mono ?_
          rintro e w2 ⟨rfl, hB2⟩
          have B2 : Below W.heap.size W w2 := HB1.out.trans (hB2.mono HB1.out.size)
          have Ht2 := hide (Ht1.out.below hB2)
          have HB2 := hide B2
          clear hB2 B2 bs1
          have kc := fun n c C => run_bytes_lit (P := Tryd.prog) 22 5 Tryd.underlying22 Tryd.underlying5 w2 w2.heap.size n c C rfl
          go_wp2_with fail
          refine (iURI_good _ _ (BS.lit rfl goodB _ _ _ rfl) (Ht2.out.alloc _)).mono ?_
          rintro e w3 ⟨⟨A1, n1, c1, A2, n2, c2, rfl⟩, hB3⟩
          go_wp2
          go_ret
          exact ⟨rfl, (HB2.out.alloc HB2.out.size _).trans (hB3.mono (by simp; have := HB2.out.size; omega))⟩
      · have k5 : decide ((5 : Int) ≤ (l.length : Int)) = false := decide_eq_false (by omega)
        go_enter Tryd.func3, Tryd.ntmps3
        go_wp2_with fail
        refine (iURI_bad _ l _ _ T a (uri_short _ l c _ T a (by omega) Hb.out)).mono ?_
        rintro e w2 ⟨rfl, hB2⟩
        have Ht2 := hide (Ht.out.below hB2)
        have HB2 := hide hB2
        clear hB2
        have kc := fun n c C => run_bytes_lit (P := Tryd.prog) 22 5 Tryd.underlying22 Tryd.underlying5 w2 w2.heap.size n c C rfl
        go_wp2_with fail
        refine (iURI_good _ _ (BS.lit rfl goodB _ _ _ rfl) (Ht2.out.alloc _)).mono ?_
        rintro e w3 ⟨⟨A1, n1, c1, A2, n2, c2, rfl⟩, hB3⟩
        go_wp2
        go_ret
        exact ⟨rfl, (HB2.out.alloc HB2.out.size _).trans (hB3.mono (by simp; have := HB2.out.size; omega))⟩

theorem gWs : Tryd.prog.globalNamed "loop.example/pub-g01476/pub/tdparse.whitespaceTable" = some 2 := by kernel_rfl
theorem tWs : (Tryd.prog.globals[2]?).map (·.type) = some 55 := by kernel_rfl
theorem dWs {H : Type} : (Rows.laid_loop_example_pub_g01476_pub_tdparse_whitespaceTable : DataW H) = .agg ((tabList isBl).map fun z => .lit (.bool z)) := by kernel_rfl
theorem gBad : Tryd.prog.globalNamed "loop.example/pub-g01476/pub/tdparse.ErrBadDataURI" = some 1 := by kernel_rfl
theorem tBad : (Tryd.prog.globals[1]?).map (·.type) = some 29 := by kernel_rfl
theorem starES : "*" ++ "errors.errorString" = "*errors.errorString" := by decide
theorem rowES (u : TypeId) (h : Tryd.prog.typeName? 3 u = some "*errors.errorString") : u = 58 :=
  typeName_ptr_named (nm := "errors.errorString") (by rw [starES]; kernel_rfl) (by kernel_rfl) (by decide) u (by rw [starES]; exact h)
theorem fnNoDataURI_ws {W : World} (h : laidMetH Tryd.prog Rows.fnNoDataURIRow.laid W) : WsTab W := by
  rw [MakeChecks.laidMetH_plain _ _ _ (by kernel_rfl)] at h
  obtain ⟨ps, ⟨_, _, _, _, _, _, _, _, _, _, ⟨g0, t0, cs0, f0, p0, q0, hg0, ht0, hv0, hd0, _, _⟩, _⟩, _, _⟩ := h
  obtain rfl := Option.some.inj (gWs.symm.trans hg0)
  obtain rfl := Option.some.inj (tWs.symm.trans ht0)
  rw [dWs] at hd0
  exact tabOf_list gWs hv0 Tryd.underlying55 Tryd.underlying4 (by kernel_rfl) (by kernel_rfl) hd0
theorem fnNoDataURI_bad {W : World} (h : laidMetH Tryd.prog Rows.fnNoDataURIRow.laid W) : ∃ T a, Bad W T a := by
  rw [MakeChecks.laidMetH_plain _ _ _ (by kernel_rfl)] at h
  obtain ⟨ps, ⟨g0, t0, cs0, f0, p0, q0, hg0, ht0, hv0, hd0, _, e0⟩, hnd, hrows⟩ := h
  obtain rfl := Option.some.inj (gBad.symm.trans hg0)
  obtain rfl := Option.some.inj (tBad.symm.trans ht0)
  subst e0
  obtain ⟨l0⟩ := cs0
  have ok0 : ∀ u v, l0 = [.iface u v] → Value.okWide Tryd.prog W .any 0 u v := fun u v e => by
    subst e
    exact (hrows 1 0 (by simp [MemPlace.row])).2 u v (by simpa using World.var?_cell hg0 hv0 0)
  obtain ⟨a0, s0, rfl, _⟩ := errorString_of_trod Tryd.underlying29 rowES Tryd.underlying58 Tryd.underlying76 rfl rfl Tryd.underlying9 (by kernel_rfl) (by kernel_rfl) hd0 ok0
  have hc := World.var?_cell gBad hv0 0
  refine ⟨58, a0, ?_⟩
  unfold Bad
  simpa using hc
end Go.Proofs.YtfghakcgpomdkaaDoor
