/- The thin package's writing of bytes by their numbers, with a set of bytes. Condition: no digit in hexadecimal is in the set. -/
import Derived.Test.YtdklelnllhpbfaaDoorEncI
import Derived.Test.YtdklelnllhpbfaaDoorCopy
import Derived.Test.YtdklelnllhpbfaaDoorTabF
import Derived.Deep.WholeRow
namespace Go.Proofs.YtdklelnllhpbfaaDoor
open Go.RowKit
set_option linter.unusedVariables false

/-- The cells of a table. -/
def tabA (f : UInt8 → Bool) : Array Value := ((List.range 256).map fun i => Value.bool (f (UInt8.ofNat i))).toArray
theorem tabA_size (f : UInt8 → Bool) : (tabA f).size = 256 := by simp [tabA]
theorem tabA_at (f : UInt8 → Bool) (d : UInt8) : (tabA f)[d.toNat]? = some (.bool (f d)) := by
  have h : d.toNat < 256 := d.toNat_lt
  simp [tabA, h]
theorem tabA_set (f : UInt8 → Bool) (d : UInt8) : (tabA f).set! d.toNat (.bool true) = tabA (fun x => x == d || f x) := by
  apply Array.ext_getElem?
  intro i
  have hd : d.toNat < 256 := d.toNat_lt
  rw [Array.set!_eq_setIfInBounds, Array.getElem?_setIfInBounds]
  unfold tabA
  by_cases h : i < 256
  · have hi : (UInt8.ofNat i).toNat = i := by rw [UInt8.toNat_ofNat']; omega
    by_cases e : d.toNat = i
    · subst e
      simp [h]
    · have e2 : (UInt8.ofNat i == d) = false := by
        rw [beq_eq_false_iff_ne]
        rintro rfl
        exact e hi
      simp [h, e, e2]
  · have e : ¬ d.toNat = i := by omega
    simp [e, h]
theorem TabR.set {w : World} {G : Nat} {f : UInt8 → Bool} (h : TabR w G (tabA f)) (d : UInt8) : TabR (w.setCell ⟨G, d.toNat, none⟩ (.bool true)) G (tabA (fun x => x == d || f x)) := by
  unfold TabR at h ⊢
  rw [← tabA_set]
  simp [World.setCell, Array.getElem?_modify, h, Array.set!_eq_setIfInBounds]
theorem TabR.frz {w : World} {G : Nat} {T : Array Value} (h : TabR w G T) (i : Nat) : w.frozen? ⟨G, i, none⟩ = false := by
  unfold TabR at h
  simp [World.frozen?, h]
theorem TabR.below {w w' : World} {G B : Nat} {T : Array Value} (h : TabR w G T) (hb : Below B w w') (hG : G < B) : TabR w' G T := (hb.block G hG).trans h
theorem TabR.drew {w : World} {G : Nat} {T : Array Value} (h : TabR w G T) : TabR w.drew G T := h
/-- A load of the whole table, as a step of a region that draws its order. -/
theorem step_load_run {P : Program} {ops : Array Oper} {o : Oper} {a : Act} {w : World} {K : Act → World → Prop} {Q : Exit → Act → World → Prop} {E : Prop} {G : Nat} {T : Array Value} {ty t : TypeId} {d : TypeDesc}
    (hT : w.heap[G]? = some (.cells T t (0, 0))) (hu : P.underlying ty = some d) (hd : (match d with | .struct _ | .array _ _ => true | _ => false) = true) (hi : (P.info? ty).map (·.size) = some T.size)
    (x : Operand) (hw : Region.wanted o (yielded ops a.tmps) = true) (ho : o.op = .load ty x) (hx : a.eval x = .pointer (some ⟨G, 0, none⟩))
    (hK : K (a.put o.dst (.agg T)) w) : if Region.wanted o (yielded ops a.tmps) = true then Oper.wp P o a w K Q else E := by
  rw [if_pos hw]
  exact wp_load_row ty x ho G hx t T (0, 0) d hT hu hd hi hK

theorem info31 : (Tryd.prog.info? 31).map (·.size) = some 256 := by kernel_rfl
/-- Operations whose runs are known, in a walk. -/
theorem wpList_build_run {P : Program} {ops : Array Oper} {rest : List Oper} {o : Oper} {a : Act} {w : World} {Q : Exit → Act → World → Prop} {t : TypeId} {v : Value}
    (hrun : (Instr.build t #[]).run P w = .ok v w) (hw : Region.wanted o (yielded ops a.tmps) = true) (ho : o.op = .build t #[])
    (h : wpList P ops Q rest (a.put o.dst v) w) : wpList P ops Q (o :: rest) a w := by
  refine wpList_step fun K hK => ?_
  rw [if_pos hw]
  unfold Oper.wp execOp
  simp only [ho, List.map_toArray, List.map_nil, Sem.run_bind, Sem.run_pure, Result.andThen_ok, hrun]
  exact hK _ _ h
theorem wpList_alloc_run {P : Program} {ops : Array Oper} {rest : List Oper} {o : Oper} {a : Act} {w w' : World} {Q : Exit → Act → World → Prop} {t : TypeId} {v : Value}
    (hrun : (Instr.alloc t true (.tuple #[])).run P w = .ok v w') (hw : Region.wanted o (yielded ops a.tmps) = true) (ho : o.op = .alloc t)
    (h : wpList P ops Q rest (a.put o.dst v) w') : wpList P ops Q (o :: rest) a w := by
  refine wpList_step fun K hK => ?_
  rw [if_pos hw]
  unfold Oper.wp execOp
  simp only [ho, Sem.run_bind, Sem.run_pure, Result.andThen_ok, hrun]
  exact hK _ _ h
theorem wpList_store_run {P : Program} {ops : Array Oper} {rest : List Oper} {o : Oper} {a : Act} {w w' : World} {Q : Exit → Act → World → Prop} {t : TypeId} {vp vx : Value}
    (hrun : (Instr.storeAt t vp vx).run P w = .ok () w') (p x : Operand) (hw : Region.wanted o (yielded ops a.tmps) = true) (ho : o.op = .store t p x) (hp : a.eval p = vp) (hx : a.eval x = vx)
    (h : wpList P ops Q rest (a.put o.dst undef) w') : wpList P ops Q (o :: rest) a w := by
  refine wpList_step fun K hK => ?_
  rw [if_pos hw]
  subst hp hx
  unfold Oper.wp execOp
  simp only [ho, Sem.run_bind, Sem.run_pure, Result.andThen_ok, hrun]
  exact hK _ _ h
theorem wpList_load_run {P : Program} {ops : Array Oper} {rest : List Oper} {o : Oper} {a : Act} {w w' : World} {Q : Exit → Act → World → Prop} {t : TypeId} {vp v : Value}
    (hrun : (Instr.loadAt t vp).run P w = .ok v w') (p : Operand) (hw : Region.wanted o (yielded ops a.tmps) = true) (ho : o.op = .load t p) (hp : a.eval p = vp)
    (h : wpList P ops Q rest (a.put o.dst v) w') : wpList P ops Q (o :: rest) a w := by
  refine wpList_step fun K hK => ?_
  rw [if_pos hw]
  subst hp
  unfold Oper.wp execOp
  simp only [ho, Sem.run_bind, Sem.run_pure, Result.andThen_ok, hrun]
  exact hK _ _ h
theorem tab_next {w : World} {G k : Nat} {s : List UInt8} {d : UInt8} (hd : s[k]? = some d) (h : TabR w G (tabA fun x => hasB x (s.take k))) : TabR (w.setCell ⟨G, d.toNat, none⟩ (.bool true)) G (tabA fun x => hasB x (s.take (k + 1))) := by
  have e : (fun x => hasB x (s.take (k + 1))) = (fun x => x == d || hasB x (s.take k)) := by
    funext x
    unfold hasB
    rw [take_at hd]
    rw [Bool.eq_iff_iff]
    simp [or_comm]
  rw [e]
  exact h.set d
def tab0 : Array Value := tabA fun _ => false
theorem run_build31 (w : World) : (Instr.build 31 #[]).run Tryd.prog w = .ok (.agg tab0) w :=
  run_build w _ _ _ (by kernel_rfl)
theorem run_alloc31 (w : World) : (Instr.alloc 31 true (.tuple #[])).run Tryd.prog w = .ok (.pointer (some ⟨w.heap.size, 0, none⟩)) (w.alloc (.cells tab0 31)) := by
  have hz := (zero_of_info (P := Tryd.prog) (t := 31) (v := .agg tab0) (n := 256) (by kernel_rfl)).1
  simp [Instr.alloc, hz, newVar, newRow, Value.cells]
theorem run_store31 (w : World) : (Instr.storeAt 31 (.pointer (some ⟨w.heap.size, 0, none⟩)) (.agg tab0)).run Tryd.prog (w.alloc (.cells tab0 31)) = .ok () (w.alloc (.cells tab0 31)) :=
  run_storeAt_new (P := Tryd.prog) w 31 tab0 tab0 (by rw [tab0, tabA_size]; exact info31) rfl (by kernel_rfl)

theorem run_store31' (w : World) (f : UInt8 → Bool) : (Instr.storeAt 31 (.pointer (some ⟨w.heap.size, 0, none⟩)) (.agg (tabA f))).run Tryd.prog (w.alloc (.cells tab0 31)) = .ok () (w.alloc (.cells (tabA f) 31)) :=
  run_storeAt_new (P := Tryd.prog) w 31 tab0 (tabA f) (by rw [tabA_size]; exact info31) (by rw [tabA_size, tab0, tabA_size]) (by
    rw [Array.all_eq_true]
    intro i hi
    simp [tabA]
    rfl)
theorem run_load_tab {G : Nat} {f : UInt8 → Bool} {w : World} (ht : TabOf G f w) : (Instr.loadAt 31 (.pointer (some ⟨G, 0, none⟩))).run Tryd.prog w = .ok (.agg (tabA f)) w := by
  have hl : (loadCells ⟨G, 0, none⟩ (tabA f).toList.length).run Tryd.prog w = .ok (tabA f).toList.toArray w :=
    run_loadCells_list (P := Tryd.prog) w ⟨G, 0, none⟩ (tabA f).toList (fun j v hv => by
      have hadd : (⟨G, 0, none⟩ : Addr).add j = ⟨G, j, none⟩ := by unfold Addr.add; split <;> simp_all
      have hj : j < 256 := by
        have := (List.getElem?_eq_some_iff.1 hv).1
        rwa [Array.length_toList, tabA_size] at this
      have e : (UInt8.ofNat j).toNat = j := by rw [UInt8.toNat_ofNat']; omega
      have h1 := ht (UInt8.ofNat j)
      have h2 := tabA_at f (UInt8.ofNat j)
      rw [e] at h1 h2
      rw [hadd, h1, ← h2]
      simpa using hv)
  rw [Array.length_toList, Array.toArray_toList, tabA_size] at hl
  have hu := Tryd.underlying31
  obtain ⟨i, hi, hsz⟩ := Option.map_eq_some_iff.1 info31
  have hagg : (isAgg 31).run Tryd.prog w = .ok true w := by
    unfold isAgg
    rw [Sem.run_bind, run_underlying hu w]
    rfl
  simp only [Instr.loadAt, Instr.sureAddr, Sem.run_bind, Sem.run_pure, Result.andThen]
  simp [loadVar, Sem.run_bind, hagg, sizeOf, typeInfo, hi, hsz, hl]

set_option maxHeartbeats 1000000 in
theorem iEnc_set (A B : Option Addr) (l s : List UInt8) (c c' : Nat) (w : World) (hl : BS w A l) (hs : BS w B s) (hf : NoHex fun c => hasB c s) (h1 : l.length ≤ 5000) (h2 : s.length ≤ 5000) :
    Calls Tryd.prog 7 #[.slice A l.length c, .slice B s.length c', .int .i64 0] w (EncIRet (fun c => hasB c s) l w.heap.size w) := by
  have Hf := hide hf
  have Hs0 := hide hs
  have Hl0 := hide hl
  clear hf
  go_enter Tryd.func7, Tryd.ntmps7
  go_wp2_with (first
    | ((with_reducible refine wpList_build_run (run_build31 _) ?_ rfl ?_); (rfl))
    | ((with_reducible refine wpList_alloc_run (run_alloc31 _) ?_ rfl ?_); (rfl))
    | ((with_reducible refine wpList_store_run (run_store31 _) _ _ ?_ rfl ?_ ?_ ?_); (rfl); (rfl); (rfl)))
  have hr0 := TabR.new w tab0
  have Hr0 := hide hr0
  clear hs hl hr0
  go_loopw [13] (fun i wr => ∃ k : Nat, k ≤ s.length ∧ i = .int .i64 (k : Int) ∧ TabR wr w.heap.size (tabA fun x => hasB x (s.take k)) ∧ Below w.heap.size w wr) (fun i _ => s.length - (intOf i).toNat)
  case atStart => exact ⟨0, Nat.zero_le _, rfl, Hr0.out, (Below.refl _ _).alloc (Nat.le_refl _) _⟩
  case round =>
    obtain ⟨k, hk, rfl, tab, hbel⟩ := hrel
    by_cases hlt : k < s.length
    · obtain ⟨d, hd⟩ : ∃ x, s[k]? = some x := ⟨_, List.getElem?_eq_getElem hlt⟩
      have hsb := Hs0.out.below hbel
      obtain ⟨b1, o1, rfl, cell0⟩ := hsb.at_ hd
      have hd256 := d.toNat_lt
      have Ht := hide (tab_next hd tab)
      have cellT := tab.cell (tabA_at _ d)
      have frz := tab.frz d.toNat
      have Hbel2 := hide (hbel.setCell (p := ⟨w.heap.size, d.toNat, none⟩) (Nat.le_refl _) (.bool true))
      clear hd tab hbel hsb
      go_wp2
      go_roundw
      case rel => exact ⟨k + 1, by omega, by go_num, Ht.out, Hbel2.out⟩
      case measure => simp [intOf]; omega
    · obtain rfl : k = s.length := by omega
      rw [List.take_length] at tab
      have Tab := hide tab
      have Hlb := hide (Hl0.out.below hbel)
      have Hbel := hide hbel
      clear tab hbel
      go_wp2
      refine wp_region_any (by kernel_rfl) ?_
      (try (change wpAny _ _ _ _ _ _ _ (World.drew _)))
      refine wpAny_take (i := 0) (v := ?_) rfl (by kernel_rfl) (by kernel_rfl) (by kernel_rfl) (fun _ _ _ h => h) (Or.inl ⟨by rfl, ?_⟩) ?_
      rotate_left
      · intro w; go_simp
        first | done | with_reducible rfl
      refine wpAny_ready (rs := [1, 2]) (by kernel_rfl) (by simp) ?_
      refine AllReady.cons rfl (fun K hK => ?_) ?_
      · go_simp
        go_at_call 13
        (with_reducible refine (copy_any _ _ _ _ Hlb.out.drew (by omega)).mono ?_)
        rintro e w1 ⟨rfl, hb, hB⟩
        (try go_simp)
        (try (refine hK _ _ ?_; clear hK K))
        have hwr := Hbel.out.drew.size
        have hb' : Blk8 w1 wr.heap.size l := hb
        have own := OwnB.ofBlk (base := w.heap.size) hb' hwr (by unfold maxLen; omega)
        have hB2 := Hbel.out.drew.trans (hB.mono hwr)
        refine wpAny_ready (rs := [2]) (by kernel_rfl) (by simp) ?_
        refine AllReady.cons rfl (fun K hK => ?_) AllReady.nil
        refine step_load_run (Tab.out.drew.below hB Tab.out.drew.lt) rfl rfl (by rw [tabA_size]; exact info31) _ (by rfl) rfl (by rfl) ?_
        (try go_simp)
        refine hK _ _ ?_
        clear hK K
        refine wpAny_ready (rs := [3]) (by kernel_rfl) (by simp) ?_
        refine AllReady.cons rfl (fun K hK => ?_) AllReady.nil
        go_simp
        go_at_call 12
        (with_reducible refine (encI_any _ _ _ _ (fun x => hasB x s) w _ hB2 own (tabA_at _) Hf.out h1).mono ?_)
        rintro e w2 ⟨A', c', rfl, hbs, hB3⟩
        (try go_simp)
        (try (refine hK _ _ ?_; clear hK K))
        refine wpAny_ready (rs := [4]) (by kernel_rfl) (by simp) ?_
        refine AllReady.cons rfl (fun K hK => ?_) AllReady.nil
        go_simp
        refine hK _ _ ?_
        clear hK K
        refine wpAny_done (by kernel_rfl) ?_ _
        go_wp2
        go_ret
        exact ⟨A', c', rfl, hbs, hB3⟩
      · refine AllReady.cons rfl (fun K hK => ?_) AllReady.nil
        refine step_load_run Tab.out.drew rfl rfl (by rw [tabA_size]; exact info31) _ (by rfl) rfl (by rfl) ?_
        (try go_simp)
        refine hK _ _ ?_
        clear hK K
        refine wpAny_ready (rs := [1]) (by kernel_rfl) (by simp) ?_
        refine AllReady.cons rfl (fun K hK => ?_) AllReady.nil
        go_simp
        go_at_call 13
        (with_reducible refine (copy_any _ _ _ _ Hlb.out.drew (by omega)).mono ?_)
        rintro e w1 ⟨rfl, hb, hB⟩
        (try go_simp)
        (try (refine hK _ _ ?_; clear hK K))
        have hwr := Hbel.out.drew.size
        have hb' : Blk8 w1 wr.heap.size l := hb
        have own := OwnB.ofBlk (base := w.heap.size) hb' hwr (by unfold maxLen; omega)
        have hB2 := Hbel.out.drew.trans (hB.mono hwr)
        refine wpAny_ready (rs := [3]) (by kernel_rfl) (by simp) ?_
        refine AllReady.cons rfl (fun K hK => ?_) AllReady.nil
        go_simp
        go_at_call 12
        (with_reducible refine (encI_any _ _ _ _ (fun x => hasB x s) w _ hB2 own (tabA_at _) Hf.out h1).mono ?_)
        rintro e w2 ⟨A', c', rfl, hbs, hB3⟩
        (try go_simp)
        (try (refine hK _ _ ?_; clear hK K))
        refine wpAny_ready (rs := [4]) (by kernel_rfl) (by simp) ?_
        refine AllReady.cons rfl (fun K hK => ?_) AllReady.nil
        go_simp
        refine hK _ _ ?_
        clear hK K
        refine wpAny_done (by kernel_rfl) ?_ _
        go_wp2
        go_ret
        exact ⟨A', c', rfl, hbs, hB3⟩

set_option maxHeartbeats 1000000 in
theorem iEnc_tab1 (A : Option Addr) (l : List UInt8) (c : Nat) (f : UInt8 → Bool) (w : World) (hl : BS w A l) (ht : TabOf 0 f w) (hf : NoHex f) (h1 : l.length ≤ 5000) :
    Calls Tryd.prog 7 #[.slice A l.length c, .slice none 0 0, .int .i64 1] w (EncIRet f l w.heap.size w) := by
  have Hf := hide hf
  have Hld := hide (run_load_tab ((ht.alloc (.cells tab0 31))))
  clear hf ht
  go_enter Tryd.func7, Tryd.ntmps7
  go_wp2_with (first
    | ((with_reducible refine wpList_build_run (run_build31 _) ?_ rfl ?_); (rfl))
    | ((with_reducible refine wpList_alloc_run (run_alloc31 _) ?_ rfl ?_); (rfl))
    | ((with_reducible refine wpList_store_run (run_store31 _) _ _ ?_ rfl ?_ ?_ ?_); (rfl); (rfl); (rfl)))
  have Hl0 := hide hl
  clear hl
  go_loopw [13] (fun i wr => i = .int .i64 0 ∧ wr = w.alloc (.cells tab0 31)) (fun _ _ => 0)
  case atStart => exact ⟨rfl, rfl⟩
  case round =>
      obtain ⟨rfl, rfl⟩ := hrel
      go_wp2_with (first
        | ((with_reducible refine wpList_load_run Hld.out _ ?_ rfl ?_ ?_); (rfl); (rfl))
        | ((with_reducible refine wpList_store_run (run_store31' _ f) _ _ ?_ rfl ?_ ?_ ?_); (rfl); (rfl); (rfl)))
      have Tab := hide (TabR.new w (tabA f))
      have Hlb := hide (Hl0.out.alloc (.cells (tabA f) 31))
      have Hbel := hide ((Below.refl w.heap.size w).alloc (Nat.le_refl _) (.cells (tabA f) 31))
      refine wp_region_any (by kernel_rfl) ?_
      (try (change wpAny _ _ _ _ _ _ _ (World.drew _)))
      refine wpAny_take (i := 0) (v := ?_) rfl (by kernel_rfl) (by kernel_rfl) (by kernel_rfl) (fun _ _ _ h => h) (Or.inl ⟨by rfl, ?_⟩) ?_
      rotate_left
      · intro w; go_simp
        first | done | with_reducible rfl
      refine wpAny_ready (rs := [1, 2]) (by kernel_rfl) (by simp) ?_
      refine AllReady.cons rfl (fun K hK => ?_) ?_
      · go_simp
        go_at_call 13
        (with_reducible refine (copy_any _ _ _ _ Hlb.out.drew (by omega)).mono ?_)
        rintro e w1 ⟨rfl, hb, hB⟩
        (try go_simp)
        (try (refine hK _ _ ?_; clear hK K))
        have hwr := Hbel.out.drew.size
        have hs1 : (w.alloc (.cells (tabA f) 31)).drew.heap.size = w.heap.size + 1 := by simp
        have hb' : Blk8 w1 (w.heap.size + 1) l := by rw [← hs1]; exact hb
        have own := OwnB.ofBlk (base := w.heap.size) hb' (Nat.le_succ _) (by unfold maxLen; omega)
        have hB2 := Hbel.out.drew.trans (hB.mono hwr)
        refine wpAny_ready (rs := [2]) (by kernel_rfl) (by simp) ?_
        refine AllReady.cons rfl (fun K hK => ?_) AllReady.nil
        refine step_load_run (Tab.out.drew.below hB Tab.out.drew.lt) rfl rfl (by rw [tabA_size]; exact info31) _ (by rfl) rfl (by rfl) ?_
        (try go_simp)
        refine hK _ _ ?_
        clear hK K
        refine wpAny_ready (rs := [3]) (by kernel_rfl) (by simp) ?_
        refine AllReady.cons rfl (fun K hK => ?_) AllReady.nil
        go_simp
        go_at_call 12
        (with_reducible refine (encI_any _ _ _ _ f w _ hB2 own (tabA_at _) Hf.out h1).mono ?_)
        rintro e w2 ⟨A', c', rfl, hbs, hB3⟩
        (try go_simp)
        (try (refine hK _ _ ?_; clear hK K))
        refine wpAny_ready (rs := [4]) (by kernel_rfl) (by simp) ?_
        refine AllReady.cons rfl (fun K hK => ?_) AllReady.nil
        go_simp
        refine hK _ _ ?_
        clear hK K
        refine wpAny_done (by kernel_rfl) ?_ _
        go_wp2
        go_ret
        exact ⟨A', c', rfl, hbs, hB3⟩
      · refine AllReady.cons rfl (fun K hK => ?_) AllReady.nil
        refine step_load_run Tab.out.drew rfl rfl (by rw [tabA_size]; exact info31) _ (by rfl) rfl (by rfl) ?_
        (try go_simp)
        refine hK _ _ ?_
        clear hK K
        refine wpAny_ready (rs := [1]) (by kernel_rfl) (by simp) ?_
        refine AllReady.cons rfl (fun K hK => ?_) AllReady.nil
        go_simp
        go_at_call 13
        (with_reducible refine (copy_any _ _ _ _ Hlb.out.drew (by omega)).mono ?_)
        rintro e w1 ⟨rfl, hb, hB⟩
        (try go_simp)
        (try (refine hK _ _ ?_; clear hK K))
        have hwr := Hbel.out.drew.size
        have hs1 : (w.alloc (.cells (tabA f) 31)).drew.heap.size = w.heap.size + 1 := by simp
        have hb' : Blk8 w1 (w.heap.size + 1) l := by rw [← hs1]; exact hb
        have own := OwnB.ofBlk (base := w.heap.size) hb' (Nat.le_succ _) (by unfold maxLen; omega)
        have hB2 := Hbel.out.drew.trans (hB.mono hwr)
        refine wpAny_ready (rs := [3]) (by kernel_rfl) (by simp) ?_
        refine AllReady.cons rfl (fun K hK => ?_) AllReady.nil
        go_simp
        go_at_call 12
        (with_reducible refine (encI_any _ _ _ _ f w _ hB2 own (tabA_at _) Hf.out h1).mono ?_)
        rintro e w2 ⟨A', c', rfl, hbs, hB3⟩
        (try go_simp)
        (try (refine hK _ _ ?_; clear hK K))
        refine wpAny_ready (rs := [4]) (by kernel_rfl) (by simp) ?_
        refine AllReady.cons rfl (fun K hK => ?_) AllReady.nil
        go_simp
        refine hK _ _ ?_
        clear hK K
        refine wpAny_done (by kernel_rfl) ?_ _
        go_wp2
        go_ret
        exact ⟨A', c', rfl, hbs, hB3⟩

set_option maxHeartbeats 1000000 in
theorem iEnc_tab2 (A : Option Addr) (l : List UInt8) (c : Nat) (f : UInt8 → Bool) (w : World) (hl : BS w A l) (ht : TabOf 1 f w) (hf : NoHex f) (h1 : l.length ≤ 5000) :
    Calls Tryd.prog 7 #[.slice A l.length c, .slice none 0 0, .int .i64 2] w (EncIRet f l w.heap.size w) := by
  have Hf := hide hf
  have Hld := hide (run_load_tab ((ht.alloc (.cells tab0 31))))
  clear hf ht
  go_enter Tryd.func7, Tryd.ntmps7
  go_wp2_with (first
    | ((with_reducible refine wpList_build_run (run_build31 _) ?_ rfl ?_); (rfl))
    | ((with_reducible refine wpList_alloc_run (run_alloc31 _) ?_ rfl ?_); (rfl))
    | ((with_reducible refine wpList_store_run (run_store31 _) _ _ ?_ rfl ?_ ?_ ?_); (rfl); (rfl); (rfl)))
  have Hl0 := hide hl
  clear hl
  go_loopw [13] (fun i wr => i = .int .i64 0 ∧ wr = w.alloc (.cells tab0 31)) (fun _ _ => 0)
  case atStart => exact ⟨rfl, rfl⟩
  case round =>
      obtain ⟨rfl, rfl⟩ := hrel
      go_wp2_with (first
        | ((with_reducible refine wpList_load_run Hld.out _ ?_ rfl ?_ ?_); (rfl); (rfl))
        | ((with_reducible refine wpList_store_run (run_store31' _ f) _ _ ?_ rfl ?_ ?_ ?_); (rfl); (rfl); (rfl)))
      have Tab := hide (TabR.new w (tabA f))
      have Hlb := hide (Hl0.out.alloc (.cells (tabA f) 31))
      have Hbel := hide ((Below.refl w.heap.size w).alloc (Nat.le_refl _) (.cells (tabA f) 31))
      refine wp_region_any (by kernel_rfl) ?_
      (try (change wpAny _ _ _ _ _ _ _ (World.drew _)))
      refine wpAny_take (i := 0) (v := ?_) rfl (by kernel_rfl) (by kernel_rfl) (by kernel_rfl) (fun _ _ _ h => h) (Or.inl ⟨by rfl, ?_⟩) ?_
      rotate_left
      · intro w; go_simp
        first | done | with_reducible rfl
      refine wpAny_ready (rs := [1, 2]) (by kernel_rfl) (by simp) ?_
      refine AllReady.cons rfl (fun K hK => ?_) ?_
      · go_simp
        go_at_call 13
        (with_reducible refine (copy_any _ _ _ _ Hlb.out.drew (by omega)).mono ?_)
        rintro e w1 ⟨rfl, hb, hB⟩
        (try go_simp)
        (try (refine hK _ _ ?_; clear hK K))
        have hwr := Hbel.out.drew.size
        have hs1 : (w.alloc (.cells (tabA f) 31)).drew.heap.size = w.heap.size + 1 := by simp
        have hb' : Blk8 w1 (w.heap.size + 1) l := by rw [← hs1]; exact hb
        have own := OwnB.ofBlk (base := w.heap.size) hb' (Nat.le_succ _) (by unfold maxLen; omega)
        have hB2 := Hbel.out.drew.trans (hB.mono hwr)
        refine wpAny_ready (rs := [2]) (by kernel_rfl) (by simp) ?_
        refine AllReady.cons rfl (fun K hK => ?_) AllReady.nil
        refine step_load_run (Tab.out.drew.below hB Tab.out.drew.lt) rfl rfl (by rw [tabA_size]; exact info31) _ (by rfl) rfl (by rfl) ?_
        (try go_simp)
        refine hK _ _ ?_
        clear hK K
        refine wpAny_ready (rs := [3]) (by kernel_rfl) (by simp) ?_
        refine AllReady.cons rfl (fun K hK => ?_) AllReady.nil
        go_simp
        go_at_call 12
        (with_reducible refine (encI_any _ _ _ _ f w _ hB2 own (tabA_at _) Hf.out h1).mono ?_)
        rintro e w2 ⟨A', c', rfl, hbs, hB3⟩
        (try go_simp)
        (try (refine hK _ _ ?_; clear hK K))
        refine wpAny_ready (rs := [4]) (by kernel_rfl) (by simp) ?_
        refine AllReady.cons rfl (fun K hK => ?_) AllReady.nil
        go_simp
        refine hK _ _ ?_
        clear hK K
        refine wpAny_done (by kernel_rfl) ?_ _
        go_wp2
        go_ret
        exact ⟨A', c', rfl, hbs, hB3⟩
      · refine AllReady.cons rfl (fun K hK => ?_) AllReady.nil
        refine step_load_run Tab.out.drew rfl rfl (by rw [tabA_size]; exact info31) _ (by rfl) rfl (by rfl) ?_
        (try go_simp)
        refine hK _ _ ?_
        clear hK K
        refine wpAny_ready (rs := [1]) (by kernel_rfl) (by simp) ?_
        refine AllReady.cons rfl (fun K hK => ?_) AllReady.nil
        go_simp
        go_at_call 13
        (with_reducible refine (copy_any _ _ _ _ Hlb.out.drew (by omega)).mono ?_)
        rintro e w1 ⟨rfl, hb, hB⟩
        (try go_simp)
        (try (refine hK _ _ ?_; clear hK K))
        have hwr := Hbel.out.drew.size
        have hs1 : (w.alloc (.cells (tabA f) 31)).drew.heap.size = w.heap.size + 1 := by simp
        have hb' : Blk8 w1 (w.heap.size + 1) l := by rw [← hs1]; exact hb
        have own := OwnB.ofBlk (base := w.heap.size) hb' (Nat.le_succ _) (by unfold maxLen; omega)
        have hB2 := Hbel.out.drew.trans (hB.mono hwr)
        refine wpAny_ready (rs := [3]) (by kernel_rfl) (by simp) ?_
        refine AllReady.cons rfl (fun K hK => ?_) AllReady.nil
        go_simp
        go_at_call 12
        (with_reducible refine (encI_any _ _ _ _ f w _ hB2 own (tabA_at _) Hf.out h1).mono ?_)
        rintro e w2 ⟨A', c', rfl, hbs, hB3⟩
        (try go_simp)
        (try (refine hK _ _ ?_; clear hK K))
        refine wpAny_ready (rs := [4]) (by kernel_rfl) (by simp) ?_
        refine AllReady.cons rfl (fun K hK => ?_) AllReady.nil
        go_simp
        refine hK _ _ ?_
        clear hK K
        refine wpAny_done (by kernel_rfl) ?_ _
        go_wp2
        go_ret
        exact ⟨A', c', rfl, hbs, hB3⟩
end Go.Proofs.YtdklelnllhpbfaaDoor
