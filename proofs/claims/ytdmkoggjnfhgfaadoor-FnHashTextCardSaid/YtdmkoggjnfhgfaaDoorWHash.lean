/- The walk of 'laws.FnHashText': it returns true for every list of bytes. Condition: the tables' cells. -/
import Derived.Test.YtdmkoggjnfhgfaaDoorHashC
import Derived.Test.YtdmkoggjnfhgfaaDoorHashH
import Derived.Test.YtdmkoggjnfhgfaaDoorRows
import Derived.Lib.LaidTab
import Derived.LaidMore
import Derived.Laws.Strings
namespace Go.Proofs.YtdmkoggjnfhgfaaDoor
open Go.RowKit
set_option linter.unusedVariables false

/-- The string of a list of bytes. -/
def strOf (l : List UInt8) : ByteArray := ⟨l.toArray⟩
theorem strOf_inj {a b : List UInt8} (h : strOf a = strOf b) : a = b := by
  have := congrArg (fun x : ByteArray => x.data.toList) h
  simpa [strOf] using this
/-- The rows of names in memory. -/
def Names (w : World) (g : Nat) (ns : List (List UInt8)) : Prop := ∀ (i : Nat) (x : List UInt8), ns[i]? = some x → w.cell? ⟨g, i, none⟩ = some (.string (strOf x))
theorem nameIn_hit {s : List UInt8} {ns : List (List UInt8)} {k : Nat} (h : ns[k]? = some s) : nameIn s ns = s := by
  unfold nameIn
  rw [if_pos (List.mem_of_getElem? h)]
theorem nameIn_miss {s : List UInt8} {ns : List (List UInt8)} {k : Nat} (hk : ns.length ≤ k) (h : ∀ j, j < k → ns[j]? ≠ some s) : nameIn s ns = [] := by
  unfold nameIn
  rw [if_neg]
  intro hm
  obtain ⟨j, hj, e⟩ := List.getElem_of_mem hm
  exact h j (by omega) (by rw [List.getElem?_eq_getElem hj, e])

set_option maxHeartbeats 1000000 in
theorem nameIn_any (A : Option Addr) (s : List UInt8) (c g n : Nat) (ns : List (List UInt8)) (w : World) (hn : ns.length = n) (hs : BS w A s) (hN : Names w g ns) (h2 : n ≤ 100) :
    Calls Tryd.prog 5 #[.slice A s.length c, .slice (some ⟨g, 0, none⟩) n n] w fun e w' => e = .returned (.string (strOf (nameIn s ns))) ∧ w = w' := by
  have hstr := fun c => run_str (P := Tryd.prog) hs c 22 9 5 Tryd.underlying22 Tryd.underlying5 Tryd.underlying9
  have HN := hide hN
  have Hn := hide hn
  obtain ⟨S, hS⟩ : ∃ S : ByteArray, ⟨s.toArray⟩ = S := ⟨_, rfl⟩
  rw [hS] at hstr
  have HS := hide hS
  clear hN hn hS
  go_enter Tryd.func5, Tryd.ntmps5
  go_wp2
  go_loop [9] (fun i => ∃ k : Nat, k ≤ n ∧ i = .int .i64 (k : Int) ∧ Hid (∀ j, j < k → ns[j]? ≠ some s)) (fun i => n - (intOf i).toNat)
  case atStart => exact ⟨0, Nat.zero_le _, rfl, hide (fun j hj => absurd hj (by omega))⟩
  case round =>
    obtain ⟨k, hk, rfl, hto⟩ := hrel
    by_cases hlt : k < n
    · obtain ⟨x, hx⟩ : ∃ x, ns[k]? = some x := ⟨_, List.getElem?_eq_getElem (by have := Hn.out; omega)⟩
      have cell := HN.out k x hx
      obtain ⟨X, hX⟩ : ∃ X, strOf x = X := ⟨_, rfl⟩
      rw [hX] at cell
      by_cases e : x = s
      · subst e
        have Hr := hide (nameIn_hit hx)
        have eX : X = S := by rw [← hX, ← HS.out]; rfl
        subst eX
        have HX := hide hX
        clear hx hto hX
        go_wp2
        go_ret
        exact ⟨by rw [Hr.out, HX.out]; rfl, rfl⟩
      · have Hto : Hid (∀ j, j < k + 1 → ns[j]? ≠ some s) := hide (fun j hj => by
          rcases Nat.lt_or_ge j k with h | h
          · exact hto.out j h
          · obtain rfl : j = k := by omega
            rw [hx]
            exact fun e' => e (Option.some.inj e'))
        have hne : (X.toList == S.toList) = false := by
          rw [beq_eq_false_iff_ne, ByteArray.toList_eq, ByteArray.toList_eq, ← hX, ← HS.out]
          simpa [strOf] using e
        clear hx hto hX
        go_wp2
        go_round
        case rel => exact ⟨k + 1, by omega, by go_num, Hto⟩
        case measure => simp [intOf]; omega
    · have Hr := hide (nameIn_miss (by have := Hn.out; omega) hto.out)
      clear hto
      go_wp2
      go_ret
      exact ⟨by rw [Hr.out]; rfl, rfl⟩
theorem cssLit : (#[.string ⟨#[100, 111, 99, 117, 109, 101, 110, 116]⟩, .string ⟨#[102, 111, 110, 116, 45, 102, 97, 99, 101]⟩, .string ⟨#[107, 101, 121, 102, 114, 97, 109, 101, 115]⟩, .string ⟨#[108, 97, 121, 101, 114]⟩, .string ⟨#[109, 101, 100, 105, 97]⟩, .string ⟨#[112, 97, 103, 101]⟩, .string ⟨#[115, 117, 112, 112, 111, 114, 116, 115]⟩] : Array Value) = (cssN.map fun l => Value.string (strOf l)).toArray := by kernel_rfl
theorem cssNames_any (w : World) : Calls Tryd.prog 6 #[] w fun e w' => e = .returned (.slice (some ⟨w.heap.size, 0, none⟩) 7 7) ∧ Names w' w.heap.size cssN ∧ Below w.heap.size w w' := by
  go_enter Tryd.func6, Tryd.ntmps6
  go_wp2
  go_ret
  refine ⟨rfl, fun i x hx => ?_, (Below.refl _ _).alloc (Nat.le_refl _) _⟩
  rw [World.cell?_alloc_mark]
  first | rw [cssLit] | (have := cssLit; simp only [this])
  simp [hx]
theorem htmlLit : (#[.string ⟨#[105, 102, 114, 97, 109, 101]⟩, .string ⟨#[109, 97, 116, 104]⟩, .string ⟨#[112, 108, 97, 105, 110, 116, 101, 120, 116]⟩, .string ⟨#[115, 99, 114, 105, 112, 116]⟩, .string ⟨#[115, 116, 121, 108, 101]⟩, .string ⟨#[115, 118, 103]⟩, .string ⟨#[116, 101, 120, 116, 97, 114, 101, 97]⟩, .string ⟨#[116, 105, 116, 108, 101]⟩, .string ⟨#[120, 109, 108]⟩, .string ⟨#[120, 109, 112]⟩] : Array Value) = (htmlN.map fun l => Value.string (strOf l)).toArray := by kernel_rfl
theorem htmlNames_any (w : World) : Calls Tryd.prog 7 #[] w fun e w' => e = .returned (.slice (some ⟨w.heap.size, 0, none⟩) 10 10) ∧ Names w' w.heap.size htmlN ∧ Below w.heap.size w w' := by
  go_enter Tryd.func7, Tryd.ntmps7
  go_wp2
  go_ret
  refine ⟨rfl, fun i x hx => ?_, (Below.refl _ _).alloc (Nat.le_refl _) _⟩
  rw [World.cell?_alloc_mark]
  first | rw [htmlLit] | (have := htmlLit; simp only [this])
  simp [hx]

theorem fnd_slot {T : List UInt8} {tab : List Nat} (h0 : ∃ h, slot tab h = 0) (a : Int) (s : List UInt8) : ∃ h, slot tab h = fnd T tab a s := by
  unfold fnd
  split
  · exact h0
  · split
    · exact ⟨_, rfl⟩
    · split
      · exact ⟨_, rfl⟩
      · exact h0
theorem media_css : nameIn [109, 101, 100, 105, 97] cssN = [109, 101, 100, 105, 97] := by decide +kernel
theorem iHash_any (A : Option Addr) (s : List UInt8) (c n : Nat) (w : World) (hn : s.length = n) (hs : BS w A s) (h1 : n ≤ 2147483647) (hc : Tabcss w) (hh : Tabhtml w) :
    Calls Tryd.prog 4 #[.slice A n c] w fun e w' => e = .returned (.tuple #[.string (strOf (nameIn s cssN)), .string (strOf (nameIn s htmlN))]) ∧ Below w.heap.size w w' := by
  subst hn
  have key : ∀ (w1 : World), BS w1 A s → Tabcss w1 → Calls Tryd.prog 8 #[.slice A s.length c] w1 (HashRet cssT cssTab 1525402570 s w1) := fun w1 hs1 ht => by
    by_cases h : s.length = 0 ∨ 9 < s.length
    · exact (cssHash_short A s c w1 hs1 h1 h).mono fun e w2 ⟨he, hw⟩ => ⟨by rw [he, fnd, if_pos h]; rfl, by rw [← hw]; exact Below.refl _ _⟩
    · exact cssHash_any A s c s.length w1 rfl hs1 (by omega) (by omega) ht
  have key2 : ∀ (w1 : World), BS w1 A s → Tabhtml w1 → Calls Tryd.prog 10 #[.slice A s.length c] w1 (HashRet htmlT htmlTab 3031929011 s w1) := fun w1 hs1 ht => by
    by_cases h : s.length = 0 ∨ 9 < s.length
    · exact (htmlHash_short A s c w1 hs1 h1 h).mono fun e w2 ⟨he, hw⟩ => ⟨by rw [he, fnd, if_pos h]; rfl, by rw [← hw]; exact Below.refl _ _⟩
    · exact htmlHash_any A s c s.length w1 rfl hs1 (by omega) (by omega) ht
  have E1 := hide (fnd_css s)
  have E2 := hide (fnd_html s)
  have K1 := hide key
  have K2 := hide key2
  have Hc := hide hc
  have Hh := hide hh
  clear key key2 hc hh
  go_enter Tryd.func4, Tryd.ntmps4
  go_wp2_with fail
  refine (K1.out _ hs Hc.out).mono ?_
  rintro e w1 ⟨rfl, hB1⟩
  go_wp2_with fail
  refine (cssStr_any _ _ (fnd_slot ⟨5, by decide⟩ _ _)).mono ?_
  rintro e w2 ⟨rfl, hB2⟩
  have B2 := hB1.trans (hB2.mono hB1.size)
  rw [E1.out]
  go_wp2_with fail
  refine (K2.out _ (hs.below B2) (HTab.below Hh.out B2)).mono ?_
  rintro e w3 ⟨rfl, hB3⟩
  go_wp2_with fail
  refine (htmlStr_any _ _ (fnd_slot ⟨0, by decide⟩ _ _)).mono ?_
  rintro e w4 ⟨rfl, hB4⟩
  rw [E2.out]
  go_wp2
  go_ret2
  exact ⟨rfl, (B2.trans (hB3.mono B2.size)).trans (hB4.mono ((B2.trans (hB3.mono B2.size)).size))⟩

set_option maxHeartbeats 1000000 in
theorem fnHashText_walk (a : Option Addr) (l : List UInt8) (c : Nat) (W : World) (bs : BS W a l) (hc : Tabcss W) (hh : Tabhtml W) :
    Calls Tryd.prog 3 #[.slice a l.length c] W fun e w' => e = .returned (.bool true) ∧ Below W.heap.size W w' := by
  have Hc := hide hc
  have Hh := hide hh
  clear hc hh
  by_cases h1 : 2147483647 < l.length
  · go_enter Tryd.func3, Tryd.ntmps3
    go_wp2
    go_ret
    exact ⟨rfl, Below.refl _ _⟩
  by_cases h2 : 5000 < l.length
  · go_enter Tryd.func3, Tryd.ntmps3
    go_wp2
    go_ret
    exact ⟨rfl, Below.refl _ _⟩
  have M := hide media_css
  have hM : (strOf [109, 101, 100, 105, 97]).toList = [109, 101, 100, 105, 97] := by rw [ByteArray.toList_eq]; rfl
  go_enter Tryd.func3, Tryd.ntmps3
  go_wp2_with fail
  refine (iHash_any _ _ _ _ _ rfl bs (by omega) Hc.out Hh.out).mono ?_
  rintro e w1 ⟨rfl, hB1⟩
  obtain ⟨X, hX⟩ : ∃ X, strOf (nameIn l cssN) = X := ⟨_, rfl⟩
  obtain ⟨Y, hY⟩ : ∃ Y, strOf (nameIn l htmlN) = Y := ⟨_, rfl⟩
  rw [hX, hY]
  have HX := hide hX
  have HY := hide hY
  clear hX hY
  have kc := fun n c C => run_bytes_lit (P := Tryd.prog) 22 5 Tryd.underlying22 Tryd.underlying5 w1 w1.heap.size n c C rfl
  go_wp2_with fail
  have hlit := BS.lit (w := w1) rfl [109, 101, 100, 105, 97] _ 5 (5, 6) rfl
  refine (iHash_any _ [109, 101, 100, 105, 97] _ _ _ rfl hlit (by decide) (HTab.below (HTab.below Hc.out hB1) ((Below.refl _ _).alloc (Nat.le_refl _) _)) (HTab.below (HTab.below Hh.out hB1) ((Below.refl _ _).alloc (Nat.le_refl _) _))).mono ?_
  rintro e w2 ⟨rfl, hB2⟩
  rw [M.out]
  have B2 := hB1.trans (((Below.refl _ _).alloc (Nat.le_refl _) (.cells #[.int .u8 109, .int .u8 101, .int .u8 100, .int .u8 105, .int .u8 97] 5 (5, 6)) |>.trans (hB2.mono (by simp))).mono hB1.size)
  go_wp2_with (first
    | (go_at_call 6; ((with_reducible refine (cssNames_any _).mono ?_); rintro e w3 ⟨rfl, hN3, hB3⟩))
    | (go_at_call 7; ((with_reducible refine (htmlNames_any _).mono ?_); rintro e w4 ⟨rfl, hN4, hB4⟩))
    | (go_at_call 5; ((with_reducible refine (nameIn_any _ _ _ _ 7 _ _ (by decide +kernel) (bs.below (B2.trans (hB3.mono B2.size))) hN3 (by decide)).mono ?_); rintro e w5 ⟨rfl, rfl⟩; rw [HX.out]))
    | (go_at_call 5; ((with_reducible refine (nameIn_any _ _ _ _ 10 _ _ (by decide +kernel) (bs.below ((B2.trans (hB3.mono B2.size)).trans (hB4.mono (B2.trans (hB3.mono B2.size)).size))) hN4 (by decide)).mono ?_); rintro e w6 ⟨rfl, rfl⟩; rw [HY.out])))
  go_ret
  exact ⟨rfl, ((B2.trans (hB3.mono B2.size)).trans (hB4.mono (B2.trans (hB3.mono B2.size)).size))⟩

/-- An array of integers that reads as the table holds it. -/
theorem htab_of {G : Nat} {w : World} {name : String} {cs : Array Value} {zs : List Nat} (hg : Tryd.prog.globalNamed name = some G) (hv : w.var? Tryd.prog name = some cs) (hcs : cs.toList = (zs.map fun (z : Nat) => (z : Int)).map fun z => Value.int .u32 z) : HTab G zs w := fun i e he => by
  rw [World.var?_cell hg hv i, ← Array.getElem?_toList, hcs]
  simp [he]
theorem gCh : Tryd.prog.globalNamed "loop.example/pub-g01476/pub/tdcss._Hash_table" = some 0 := by kernel_rfl
theorem tCh : (Tryd.prog.globals[0]?).map (·.type) = some 35 := by kernel_rfl
theorem dCh : (Rows.laid_loop_example_pub_g01476_pub_tdcss_Hash_table : DataW Unit) = Lib.tabData .u32 (cssTab.map fun (z : Nat) => (z : Int)) := by kernel_rfl
theorem gHh : Tryd.prog.globalNamed "loop.example/pub-g01476/pub/tdhtml._Hash_table" = some 1 := by kernel_rfl
theorem tHh : (Tryd.prog.globals[1]?).map (·.type) = some 38 := by kernel_rfl
theorem dHh : (Rows.laid_loop_example_pub_g01476_pub_tdhtml_Hash_table : DataW Unit) = Lib.tabData .u32 (htmlTab.map fun (z : Nat) => (z : Int)) := by kernel_rfl
theorem fnHashText_ch {W : World} (h : laidMetH Tryd.prog Rows.fnHashTextRow.laid W) : Tabcss W := by
  rw [MakeChecks.laidMetH_plain _ _ _ (by kernel_rfl)] at h
  obtain ⟨ps, ⟨g0, t0, cs0, f0, p0, q0, hg0, ht0, hv0, hd0, _, _⟩, _, _⟩ := h
  obtain rfl := Option.some.inj (gCh.symm.trans hg0)
  obtain rfl := Option.some.inj (tCh.symm.trans ht0)
  rw [dCh] at hd0
  exact htab_of gCh hv0 (Lib.cells_of_tab Tryd.underlying35 Tryd.underlying30 (by kernel_rfl) (by kernel_rfl) hd0)
theorem fnHashText_hh {W : World} (h : laidMetH Tryd.prog Rows.fnHashTextRow.laid W) : Tabhtml W := by
  rw [MakeChecks.laidMetH_plain _ _ _ (by kernel_rfl)] at h
  obtain ⟨ps, ⟨g0, t0, cs0, f0, p0, q0, hg0, ht0, hv0, hd0, ⟨g1, t1, cs1, f1, p1, q1, hg1, ht1, hv1, hd1, _, _⟩, _⟩, _, _⟩ := h
  obtain rfl := Option.some.inj (gHh.symm.trans hg1)
  obtain rfl := Option.some.inj (tHh.symm.trans ht1)
  rw [dHh] at hd1
  exact htab_of gHh hv1 (Lib.cells_of_tab Tryd.underlying38 Tryd.underlying33 (by kernel_rfl) (by kernel_rfl) hd1)
end Go.Proofs.YtdmkoggjnfhgfaaDoor
