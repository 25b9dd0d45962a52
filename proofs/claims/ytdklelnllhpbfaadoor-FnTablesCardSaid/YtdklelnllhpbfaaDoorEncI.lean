/- The program's writing of bytes by their numbers, in its own row. Condition: no digit in hexadecimal is written so. -/
import Derived.Test.YtdklelnllhpbfaaDoorEncS
import Derived.Test.YtdklelnllhpbfaaDoorCopO
import Derived.Test.YtdklelnllhpbfaaDoorPut
import Derived.Deep.Cut
namespace Go.Proofs.YtdklelnllhpbfaaDoor
open Go.RowKit
set_option linter.unusedVariables false

/-- The row after the append and the copy. -/
def midRow (l : List UInt8) (k : Nat) : List UInt8 := (l ++ [0, 0]).take (k + 3) ++ l.drop (k + 1)
theorem mid_full (l : List UInt8) (k : Nat) (h : k < l.length) : ((l ++ [0, 0]).take (k + 3) ++ (((l ++ [0, 0]).drop (k + 1)).take (l.length - (k + 1))) ++ (l ++ [0, 0]).drop (k + 3 + (l.length - (k + 1)))) = midRow l k := by
  have e1 : (l ++ [0, 0]).drop (k + 3 + (l.length - (k + 1))) = [] := List.drop_of_length_le (by simp; omega)
  have e2 : ((l ++ [0, 0]).drop (k + 1)).take (l.length - (k + 1)) = l.drop (k + 1) := by
    rw [List.drop_append_of_le_length (by omega), List.take_append_of_le_length (by simp), List.take_of_length_le (by simp)]
  rw [e1, e2, List.append_nil]
  rfl
theorem mid_last (l : List UInt8) (k : Nat) (h : l.length = k + 1) : l ++ [0, 0] = midRow l k := by
  unfold midRow
  rw [List.take_of_length_le (by simp; omega), List.drop_of_length_le (by omega), List.append_nil]
theorem OwnB.some_ {w : World} {base n c : Nat} {A : Option Addr} {l : List UInt8} (h : OwnB w base A n c l) (hn : 0 < n) : ∃ g, A = some ⟨g, 0, none⟩ := by
  obtain ⟨g, cap, hv, _, _⟩ := h.2.form hn
  injection hv with hA _ _
  exact ⟨g, hA⟩
/-- What it returns. -/
def EncIRet (f : UInt8 → Bool) (l : List UInt8) (base : Nat) (w0 : World) (e : Ending) (w' : World) : Prop := ∃ A' c', e = .returned (.slice A' (enc f l).length c') ∧ BS w' A' (enc f l) ∧ Below base w0 w'
/-- The table's row. -/
def TabR (w : World) (G : Nat) (T : Array Value) : Prop := w.heap[G]? = some (.cells T 31)
theorem TabR.lt {w : World} {G : Nat} {T : Array Value} (h : TabR w G T) : G < w.heap.size := (Array.getElem?_eq_some_iff.1 h).1
theorem TabR.cell {w : World} {G : Nat} {T : Array Value} (h : TabR w G T) {k : Nat} {v : Value} (hv : T[k]? = some v) : w.cell? ⟨G, k, none⟩ = some v := by
  unfold TabR at h
  simp [World.cell?, h, hv]
theorem TabR.grown {w w' : World} {G : Nat} {T : Array Value} {row : Option Nat} (h : TabR w G T) (hg : w.grownBy w' row) (hne : some G ≠ row) : TabR w' G T := (hg.block G h.lt hne).trans h
theorem TabR.alloc {w : World} {G : Nat} {T : Array Value} (h : TabR w G T) (o : Obj) : TabR (w.alloc o) G T := by
  have hl := h.lt
  have e : (w.alloc o).heap = w.heap.push o := rfl
  unfold TabR at h ⊢
  rw [e, Array.getElem?_push, if_neg (by omega)]
  exact h
theorem TabR.new (w : World) (T : Array Value) : TabR (w.alloc (.cells T 31)) w.heap.size T := by
  have e : (w.alloc (.cells T 31)).heap = w.heap.push (.cells T 31) := rfl
  unfold TabR
  rw [e]
  simp

set_option maxRecDepth 100000 in
set_option maxHeartbeats 3000000 in
theorem encI_any (g c : Nat) (l : List UInt8) (T : Array Value) (f : UInt8 → Bool) (w0 w : World) (hbel : Below w0.heap.size w0 w) (own : OwnB w w0.heap.size (some ⟨g, 0, none⟩) l.length c l) (hT : ∀ d : UInt8, T[d.toNat]? = some (.bool (f d))) (hf : NoHex f) (h3 : l.length ≤ 5000) :
    Calls Tryd.prog 12 #[.slice (some ⟨g, 0, none⟩) l.length c, .agg T] w (EncIRet f l w0.heap.size w0) := by
  have hbs := hbel.size
  have hEL := enc_le f l
  go_enter Tryd.func12, Tryd.ntmps12
  go_wp2
  go_loopw [0, 5] (fun b i wr => ∃ (n k g' c' : Nat) (cur : List UInt8), b = .slice (some ⟨g', 0, none⟩) n c' ∧ i = .int .i64 (k : Int) ∧ k ≤ n ∧ OwnB wr w0.heap.size (some ⟨g', 0, none⟩) n c' cur ∧ g' ≠ w.heap.size ∧ TabR wr w.heap.size T ∧ Hid (cur.take k ++ enc f (cur.drop k) = enc f l) ∧ Below w0.heap.size w0 wr)
    (fun _ i _ => (enc f l).length - (intOf i).toNat)
  case atStart => exact ⟨l.length, 0, g, c, l, rfl, rfl, Nat.zero_le _, own.alloc _, by have := own.blk_lt g rfl; omega, TabR.new _ _, hide rfl, hbel.alloc hbs _⟩
  case round =>
    obtain ⟨n, k, g', c', cur, rfl, rfl, hk, own, hne, tab, hp, hbel⟩ := hrel
    have hcl := own.len
    have hle := own.le
    have hnE : n ≤ (enc f l).length := by
      have e := congrArg List.length hp.out
      have := enc_ge f (cur.drop k)
      simp at e this
      omega
    by_cases hlt : k < n
    · obtain ⟨d, hd⟩ : ∃ x, cur[k]? = some x := ⟨_, List.getElem?_eq_getElem (by omega)⟩
      have cell0 := own.cellI hd
      have celT := tab.cell (hT d)
      have hd256 := d.toNat_lt
      have Hcl := hide hcl
      clear hcl
      cases hfd : f d with
      | false =>
        rw [hfd] at celT
        have Hp2 := hide (encp_no hd hfd hp.out)
        clear hfd hd hp
        go_wp2
        go_roundw
        case rel => exact ⟨n, k + 1, g', c', cur, rfl, by go_num, by omega, own, hne, tab, Hp2, hbel⟩
        case measure => simp [intOf]; omega
      | true =>
        rw [hfd] at celT
        have hsz := hbel.size
        obtain ⟨A1, c1, w1, hrun, own1, hg1, hblk⟩ := run_append8 (P := Tryd.prog) 22 22 Tryd.underlying22 u8_info (own.alloc (.cells #[.int .u8 0, .int .u8 0] 5)) (BS.lit rfl [0, 0] _ 5 (0, 0) rfl) 2 2 rfl (by omega) (by simp; omega)
        obtain ⟨g1, rfl⟩ := own1.some_ (by omega)
        have tabA := tab.alloc (.cells #[.int .u8 0, .int .u8 0] 5)
        have tab1 := tabA.grown hg1 (fun e => hne (by injection e with e; exact e.symm))
        have hne1 : g1 ≠ w.heap.size := by
          rcases hblk with e | e
          · injection e with e
            have e : g1 = g' := e
            omega
          · injection e with e
            have e : g1 = (wr.alloc (.cells #[.int .u8 0, .int .u8 0] 5)).heap.size := e
            have := tab.lt
            simp at e
            omega
        have hbel1 := (own.alloc (.cells #[.int .u8 0, .int .u8 0] 5)).bel (hbel.alloc hsz _) hg1 (by simp; omega)
        have hle1 := own1.le
        have Hp2 := hide (encp_yes hf hd hfd hp.out)
        have Hrun := hide hrun
        have X1 := hex_hi d Tryd.prog 9 Tryd.underlying9
        have X2 := hex_lo d Tryd.prog 9 Tryd.underlying9
        have X3 : ∀ w, (Instr.index 9 (.string hexText) (.int .u8 ((d.toNat : Int) % 16))).run Tryd.prog w = .ok (.int .u8 ((encL d).toNat : Int)) w := fun w => by
          have h := hex_lo d Tryd.prog 9 Tryd.underlying9 w
          rw [and15, Int.natCast_emod] at h
          exact h
        unfold hexText at X1 X2 X3
        have hcl := Hcl.out
        have src := own1.partD (k + 1)
        have hbr : Below w0.heap.size w0 wr := hbel
        have Hrow := hide (encAt_row d (show k < cur.length by omega))
        by_cases hlast : c1 = k + 3
        · subst hlast
          have hnk : n ≤ k + 1 := by omega
          have hrun2 := run_copy_none (P := Tryd.prog) w1.drew 22 22 3 5 (some ⟨g1, 0, none⟩) (some ⟨g1, k + 1, none⟩) 0 0 (n + 1 - k) 2 Tryd.underlying22 (by kernel_rfl) (by simp)
          have own3 := ((own1.set_ k 37).set_ (k + 1) (encH d)).set_ (k + 2) (encL d)
          have f1 := own1.frz k
          have ownA := own1.set_ k 37
          simp only [show ((37 : UInt8).toNat : Int) = 37 from rfl] at ownA
          have ownB := ownA.set_ (k + 1) (encH d)
          have f2 := ownA.frz (k + 1)
          have f3 := ownB.frz (k + 2)
          have lm := own1.len
          obtain ⟨x0, hx0⟩ : ∃ x, (cur ++ [0, 0])[k]? = some x := ⟨_, List.getElem?_eq_getElem (by omega)⟩
          obtain ⟨x1, hx1⟩ : ∃ x, ((cur ++ [0, 0]).set k 37)[k + 1]? = some x := ⟨_, List.getElem?_eq_getElem (by simp only [List.length_set]; omega)⟩
          obtain ⟨x2, hx2⟩ : ∃ x, (((cur ++ [0, 0]).set k 37).set (k + 1) (encH d))[k + 2]? = some x := ⟨_, List.getElem?_eq_getElem (by simp only [List.length_set]; omega)⟩
          have cc0 := own1.cellI hx0
          have cc1 := ownA.cellI hx1
          have cc2 := ownB.cellI hx2
          clear hx0 hx1 hx2 lm ownA ownB
          have G3 := grown_set (grown_set (grown_set (World.grownBy.refl w1 (some g1)) (p := ⟨g1, k, none⟩) (.inl rfl) (.int .u8 37)) (p := ⟨g1, k + 1, none⟩) (.inl rfl) (.int .u8 ((encH d).toNat : Int))) (p := ⟨g1, k + 2, none⟩) (.inl rfl) (.int .u8 ((encL d).toNat : Int))
          have tab3 := tab1.grown G3 (fun e => hne1 (by injection e with e; exact e.symm))
          have bel3 := own1.bel hbel1 G3 hbel1.size
          rw [mid_last cur k (by omega)] at own3
          unfold midRow at own3
          rw [Hrow.out] at own3
          simp only [show ((37 : UInt8).toNat : Int) = 37 from rfl] at own3
          have Own3 := hide own3
          have Tab3 := hide tab3
          have Bel3 := hide bel3
          clear G3 tab3 bel3 own3
          have Hrun2 := hide hrun2
          have t5 : 0 ≤ (k : Int) + 3 := by omega
          have t6 : 0 ≤ (k : Int) + 1 := by omega
          have t7 : ((k : Int) + 3).toNat = k + 3 := by omega
          have t8 : ((k : Int) + 1).toNat = k + 1 := by omega
          have t9 : ¬ k + 3 = k + 1 := by omega
          have t10 : (k : Int) + 3 ≤ (n : Int) + 2 := by omega
          have t11 : (k : Int) + 1 ≤ (n : Int) + 2 := by omega
          obtain ⟨t1, t2, t3, t3b, t3c, t4⟩ : (IntKind.i64.wrap ((k : Int) + 3) = (k : Int) + 3) ∧ (IntKind.i64.wrap ((k : Int) + 1) = (k : Int) + 1) ∧ (IntKind.i64.wrap ((k : Int) + 0) = (k : Int)) ∧ (IntKind.i64.wrap (k : Int) = (k : Int)) ∧ (wrap64 (k : Int) = (k : Int)) ∧ (IntKind.i64.wrap ((k : Int) + 2) = (k : Int) + 2) := ⟨IntWalk.i64_in _ (by omega), IntWalk.i64_in _ (by omega), IntWalk.i64_in _ (by omega), IntWalk.i64_in _ (by omega), by unfold wrap64; omega, IntWalk.i64_in _ (by omega)⟩
          clear hcl hrun2 hrun src own1 own tab1 tabA tab hbel hbel1 hg1 hblk hd hp hfd hbr
          go_wp2_with (at_builtin; (with_reducible refine wpList_append_runG Hrun.out _ _ ?_ rfl rfl ?_ ?_ ?_); (rfl); (rfl); (rfl))
          go_region_law ((with_reducible refine step_copy_runG Hrun2.out _ _ ?_ rfl rfl ?_ ?_ ?_); (rfl); (simp [Act.eval, Act.put]); (simp [Act.eval, Act.put]))
          all_goals
            clear t1 t5 t6 t7 t8 t9 t10 t11 hle hle1 hEL hbs celT cell0 hT Hrun Hrun2 Hrow hsz Hcl
            go_wp2
            go_roundw
            case rel => exact ⟨n + 2, k + 1, g1, k + 3, _, rfl, by go_num, by omega, Own3.out.drew, hne1, Tab3.out, Hp2, Bel3.out.drew⟩
            case measure => simp [intOf]; omega
        · obtain ⟨w2, hrun2, own2, hg2, hz2⟩ := run_copyO own1.drew src.drew (k + 3) (n - (k + 1)) (c1 - (k + 3)) (n + 1 - k) (c1 - (k + 1)) (n - (k + 1)) (by simp; omega) (by omega) (by omega)
          have hmid := mid_full cur k (by omega)
          rw [hcl] at hmid
          rw [hmid] at own2
          have bel2 := own1.drew.bel hbel1.drew hg2 hbel1.size
          have tab2 := TabR.grown (w := w1.drew) tab1 hg2 (fun e => hne1 (by injection e with e; exact e.symm))
          have own3 := ((own2.set_ k 37).set_ (k + 1) (encH d)).set_ (k + 2) (encL d)
          have f1 := own2.frz k
          have ownA := own2.set_ k 37
          simp only [show ((37 : UInt8).toNat : Int) = 37 from rfl] at ownA
          have ownB := ownA.set_ (k + 1) (encH d)
          have f2 := ownA.frz (k + 1)
          have f3 := ownB.frz (k + 2)
          have lm := own2.len
          obtain ⟨x0, hx0⟩ : ∃ x, (midRow cur k)[k]? = some x := ⟨_, List.getElem?_eq_getElem (by omega)⟩
          obtain ⟨x1, hx1⟩ : ∃ x, ((midRow cur k).set k 37)[k + 1]? = some x := ⟨_, List.getElem?_eq_getElem (by simp only [List.length_set]; omega)⟩
          obtain ⟨x2, hx2⟩ : ∃ x, (((midRow cur k).set k 37).set (k + 1) (encH d))[k + 2]? = some x := ⟨_, List.getElem?_eq_getElem (by simp only [List.length_set]; omega)⟩
          have cc0 := own2.cellI hx0
          have cc1 := ownA.cellI hx1
          have cc2 := ownB.cellI hx2
          clear hx0 hx1 hx2 lm ownA ownB
          have G3 := grown_set (grown_set (grown_set (World.grownBy.refl w2 (some g1)) (p := ⟨g1, k, none⟩) (.inl rfl) (.int .u8 37)) (p := ⟨g1, k + 1, none⟩) (.inl rfl) (.int .u8 ((encH d).toNat : Int))) (p := ⟨g1, k + 2, none⟩) (.inl rfl) (.int .u8 ((encL d).toNat : Int))
          have Hrun2 := hide hrun2
          have tab3 := tab2.grown G3 (fun e => hne1 (by injection e with e; exact e.symm))
          have bel3 := own2.bel bel2 G3 bel2.size
          unfold midRow at own3
          rw [Hrow.out] at own3
          simp only [show ((37 : UInt8).toNat : Int) = 37 from rfl] at own3
          have Own3 := hide own3
          have Tab3 := hide tab3
          have Bel3 := hide bel3
          clear G3 tab3 bel3
          have t5 : 0 ≤ (k : Int) + 3 := by omega
          have t6 : 0 ≤ (k : Int) + 1 := by omega
          have t7 : ((k : Int) + 3).toNat = k + 3 := by omega
          have t8 : ((k : Int) + 1).toNat = k + 1 := by omega
          have t9 : ¬ c1 = k + 1 := by omega
          have t10 : (k : Int) + 3 ≤ (n : Int) + 2 := by omega
          have t11 : (k : Int) + 1 ≤ (n : Int) + 2 := by omega
          obtain ⟨t1, t2, t3, t3b, t3c, t4⟩ : (IntKind.i64.wrap ((k : Int) + 3) = (k : Int) + 3) ∧ (IntKind.i64.wrap ((k : Int) + 1) = (k : Int) + 1) ∧ (IntKind.i64.wrap ((k : Int) + 0) = (k : Int)) ∧ (IntKind.i64.wrap (k : Int) = (k : Int)) ∧ (wrap64 (k : Int) = (k : Int)) ∧ (IntKind.i64.wrap ((k : Int) + 2) = (k : Int) + 2) := ⟨IntWalk.i64_in _ (by omega), IntWalk.i64_in _ (by omega), IntWalk.i64_in _ (by omega), IntWalk.i64_in _ (by omega), by unfold wrap64; omega, IntWalk.i64_in _ (by omega)⟩
          clear own3 own2 tab2 bel2 hrun2 hrun hg2 hz2 hmid src own1 own tab1 tabA tab hbel hbel1 hg1 hblk hd hp hfd hbr
          go_wp2_with (at_builtin; (with_reducible refine wpList_append_runG Hrun.out _ _ ?_ rfl rfl ?_ ?_ ?_); (rfl); (rfl); (rfl))
          go_region_law ((with_reducible refine step_copy_runG Hrun2.out _ _ ?_ rfl rfl ?_ ?_ ?_); (rfl); (simp [Act.eval, Act.put]); (simp [Act.eval, Act.put]))
          all_goals
            clear t1 t5 t6 t7 t8 t9 t10 t11 hcl hle hle1 hEL hbs celT cell0 hT Hrun Hrun2 Hrow hsz hlast Hcl
            skip
            go_wp2
            go_roundw
            case rel => exact ⟨n + 2, k + 1, g1, c1, _, rfl, by go_num, by omega, Own3.out, hne1, Tab3.out, Hp2, Bel3.out⟩
            case measure => simp [intOf]; omega
    · obtain rfl : k = n := by omega
      have hout := encp_end (by omega) hp.out
      subst hout
      have Hown := hide own
      have Hcl := hide hcl
      clear own hcl hp hnE hEL
      go_wp2
      go_ret
      exact ⟨_, _, by rw [Hcl.out]; rfl, Hown.out.bs, hbel⟩
end Go.Proofs.YtdklelnllhpbfaaDoor
