/- The thin package's reading of a media type: the parameters' names, sorted, and their values. Conditions: the text is a media type with parameters as the law writes it. -/
import Derived.Test.YtndoaeipcdcahaaIMap
import Derived.Test.YtndoaeipcdcahaaSort2
import Derived.Test.YtndoaeipcdcahaaMed
namespace Go.Proofs.Ytndoaeipcdcahaa
open Go.RowKit Go.Maps
set_option linter.unusedVariables false
set_option linter.unusedSimpArgs false

/-- What the thin package gives. -/
def IMedRet (b o m c : Nat) (ps : List Ent) (w : World) (e : Ending) (w' : World) : Prop := ∃ (gk ck gv cv k : Nat) (ks gs : List (List UInt8)), e = .returned (.tuple #[.slice (some ⟨b, o, none⟩) m c, .slice (some ⟨gk, 0, none⟩) k ck, .slice (some ⟨gv, 0, none⟩) k cv]) ∧
  Strs w' w.heap.size gk k ck ks ∧ Strs w' w.heap.size gv k cv gs ∧ ks.Perm (ps.map (·.1)) ∧ (∀ (i : Nat) (p : Ent), p ∈ ps → ks[i]? = some p.1 → gs[i]? = some p.2) ∧ Below w.heap.size w w'
theorem own_form {w : World} {base n cap : Nat} {A : Option Addr} {E : TypeId} {size : Nat} {xs : List Value} (h : w.ownsRow base E size (.slice A n cap) n xs) (hA : A ≠ none) : ∃ g, A = some ⟨g, 0, none⟩ ∧ base ≤ g ∧ g < w.heap.size := by
  rcases h.2 with ⟨e, _⟩ | ⟨g, cap', cur, e, hb, hg, _⟩
  · injection e with e _ _
    exact absurd e hA
  · injection e with e _ _
    exact ⟨g, e, hb, (Array.getElem?_eq_some_iff.1 hg).1⟩
/-- What stands at the head of the loop over the map. -/
structure GaRel (W : World) (B r vb : Nat) (D : DataW Unit) (n : Nat) (left : Lit → Bool) (cnt : Nat) (Ak : Option Addr) (k ck : Nat) (ss : List (List UInt8)) (wr : World) : Prop where
  rg : wr.ranges Try.prog 9 (plainElem (H := Unit) Try.prog 9) B r n D left cnt
  own : wr.ownsRow W.heap.size 9 1 (.slice Ak k ck) k (ss.map sv)
  val : wr.ownsRow W.heap.size 9 1 (.slice (some ⟨vb, 0, none⟩) 0 0) 0 []
  sl : ss.length = k
  le : k + cnt ≤ n
  nn : Ak ≠ none
  col : Collected D left ss
  apB : blk Ak ≠ some B
  apr : blk Ak ≠ some r
  apv : blk Ak ≠ some vb
  rv : r ≠ vb
  Wr : W.heap.size ≤ r
  bel : Below W.heap.size W wr
theorem GaRel.next {W wr w4 : World} {B r vb n cnt cnt2 k ck : Nat} {D : DataW Unit} {left : Lit → Bool} {Ak : Option Addr} {ss : List (List UInt8)} {x : List UInt8} {y : DataW Unit} (h : GaRel W B r vb D n left cnt Ak k ck ss wr) (hlk : left (.string x) = true) (hat : ∀ zd, D.atKey (.string x) zd = y)
    (hrg2 : w4.ranges Try.prog 9 (plainElem (H := Unit) Try.prog 9) B r n D (fun z => left z && !z.sameKey (.string x)) cnt2) (hlt : cnt2 < cnt) (hg2 : wr.grownBy w4 (some r)) (hn : n ≤ 100) :
    ∃ Ak' ck' w5, (Builtin.append_ #[26, 26] 26 #[.slice Ak k ck, .slice (some ⟨w4.heap.size, 0, none⟩) 1 1]).run Try.prog (w4.alloc (.cells #[sv x] 9)) = .ok (.slice Ak' (k + 1) ck') w5 ∧
      GaRel W B r vb D n (fun z => left z && !z.sameKey (.string x)) cnt2 Ak' (k + 1) ck' (ss ++ [x]) w5 := by
  obtain ⟨rg, own, val, sl, le, nn, col, apB, apr, apv, rv, Wr, bel⟩ := h
  have own2 := row_kept own hg2 (fun b hb e => apr (hb.trans e.symm))
  have val2 := row_kept val hg2 (fun b hb e => rv (by have hb2 : vb = b := (by simpa [blk] using hb); injection e with e; omega))
  have bel2 := bel.grown hg2 bel.size (fun k e => by injection e with e; omega)
  obtain ⟨Ak', ck', w5, hrun, own3, hg3, hat3⟩ := strs_app own2 bel2.size x (by omega)
  have lr := hrg2.lt
  have lB := hrg2.owns.lt
  have lv := row_lt val2
  have l0 := row_lt own2
  refine ⟨Ak', ck', w5, hrun, ⟨hrg2.kept hg3 (fun e => apB e.symm) (fun e => apr e.symm), own3, row_kept val2 hg3 (fun b hb e => apv (by rw [e, ← hb]; rfl)), by simp [sl], by omega, ?_, col.step hlk hat, ?_, ?_, ?_, rv, Wr, bel2.grown hg3 bel2.size (fun k e => (l0 k e).1)⟩⟩
  · intro e
    rcases own3.2 with ⟨_, e2⟩ | ⟨g, cap', cur, e2, _⟩
    · omega
    · subst e; simp at e2
  · intro e
    rcases hat3 with h | ⟨k', h, hk'⟩
    · exact apB (h.symm.trans e)
    · rw [h] at e; injection e with e; omega
  · intro e
    rcases hat3 with h | ⟨k', h, hk'⟩
    · exact apr (h.symm.trans e)
    · rw [h] at e; injection e with e; omega
  · intro e
    have := (lv vb rfl).2
    rcases hat3 with h | ⟨k', h, hk'⟩
    · exact apv (h.symm.trans e)
    · rw [h] at e; injection e with e; omega
theorem nodup_inj {ps : List Ent} (h : (ps.map (·.1)).Nodup) {p q : Ent} (hp : p ∈ ps) (hq : q ∈ ps) (e : p.1 = q.1) : p = q := by
  induction ps with
  | nil => simp at hp
  | cons a r ih =>
    rw [List.map_cons, List.nodup_cons] at h
    rcases List.mem_cons.1 hp with e1 | hp'
    · rcases List.mem_cons.1 hq with e2 | hq'
      · rw [e1, e2]
      · exact absurd (by rw [← e1, e]; exact List.mem_map_of_mem hq') h.1
    · rcases List.mem_cons.1 hq with e2 | hq'
      · exact absurd (by rw [← e2, ← e]; exact List.mem_map_of_mem hp') h.1
      · exact ih h.2 hp' hq'
/-- What stands at the head of the loop over the names. -/
structure VaRel (W : World) (B gk k ck : Nat) (ps : List Ent) (ks : List (List UInt8)) (Av : Option Addr) (i cv : Nat) (gs : List (List UInt8)) (wr : World) : Prop where
  mp : MapHas wr B ps
  keys : Strs wr W.heap.size gk k ck ks
  own : wr.ownsRow W.heap.size 9 1 (.slice Av i cv) i (gs.map sv)
  gl : gs.length = i
  nn : Av ≠ none
  dat : ∀ j p, p ∈ ps → j < i → ks[j]? = some p.1 → gs[j]? = some p.2
  apB : blk Av ≠ some B
  apk : blk Av ≠ some gk
  bel : Below W.heap.size W wr
theorem VaRel.next {W wr : World} {B gk k ck i cv : Nat} {ps : List Ent} {ks gs : List (List UInt8)} {Av : Option Addr} {p : Ent} (h : VaRel W B gk k ck ps ks Av i cv gs wr) (hp : p ∈ ps) (hi : ks[i]? = some p.1) (hnd : (ps.map (·.1)).Nodup) (hik : i ≤ 100) :
    ∃ Av' cv' w5, (Builtin.append_ #[26, 26] 26 #[.slice Av i cv, .slice (some ⟨wr.heap.size, 0, none⟩) 1 1]).run Try.prog (wr.alloc (.cells #[sv p.2] 9)) = .ok (.slice Av' (i + 1) cv') w5 ∧
      VaRel W B gk k ck ps ks Av' (i + 1) cv' (gs ++ [p.2]) w5 := by
  obtain ⟨mp, keys, own, gl, nn, dat, apB, apk, bel⟩ := h
  obtain ⟨Av', cv', w5, hrun, own3, hg3, hat3⟩ := strs_app own bel.size p.2 hik
  have lB : B < wr.heap.size := by obtain ⟨D, h1, _⟩ := mp; exact h1.lt
  have lk := (row_lt keys gk rfl).2
  have l0 := row_lt own
  refine ⟨Av', cv', w5, hrun, ⟨mp.kept hg3 (fun e => apB e.symm), row_kept keys hg3 (fun b hb e => apk (by rw [e, ← hb]; rfl)), own3, by simp [gl], ?_, ?_, ?_, ?_, bel.grown hg3 bel.size (fun k e => (l0 k e).1)⟩⟩
  · intro e
    rcases own3.2 with ⟨_, e2⟩ | ⟨g, cap', cur, e2, _⟩
    · omega
    · subst e; simp at e2
  · intro j q hq hj hjq
    rcases Nat.lt_or_ge j i with hji | hji
    · rw [List.getElem?_append_left (by omega)]
      exact dat j q hq hji hjq
    · obtain rfl : j = i := by omega
      rw [hi] at hjq
      injection hjq with e
      obtain rfl := nodup_inj hnd hp hq e
      rw [List.getElem?_append_right (by omega), gl, Nat.sub_self]
      rfl
  · intro e
    rcases hat3 with h | ⟨k', h, hk'⟩
    · exact apB (h.symm.trans e)
    · rw [h] at e; injection e with e; omega
  · intro e
    rcases hat3 with h | ⟨k', h, hk'⟩
    · exact apk (h.symm.trans e)
    · rw [h] at e; injection e with e; omega
set_option maxRecDepth 100000 in
set_option maxHeartbeats 4000000 in
theorem imed_some (b o n c m bl : Nat) (l media : List UInt8) (p0 : Ent) (ps : List Ent) (w : World) (hcall : Calls Try.prog 11 #[.slice (some ⟨b, o, none⟩) n c] w (MedRet b o m c (p0 :: ps) w)) (h10 : (p0 :: ps).length ≤ 10) (hnd : ((p0 :: ps).map (·.1)).Nodup) (hle : ∀ p ∈ p0 :: ps, p.1.length ≤ 2147483647) :
    Calls Try.prog 7 #[.slice (some ⟨b, o, none⟩) n c] w (IMedRet b o m c (p0 :: ps) w) := by
  have Hnd := hide hnd
  have H10 := hide h10
  clear hnd h10
  go_enter Try.func7, Try.ntmps7
  go_upto_region 3 with (go_at_call 11; refine hcall.mono ?_; rintro e w2 ⟨B, rfl, qs, hqs, ⟨D, hown, hD⟩, hb2, hBw⟩)
  subst hqs
  have hsz2 := hb2.size
  have hBlt := hown.lt
  obtain ⟨W3, hW3⟩ : ∃ W3, (w2.alloc (.cells #[] 9)).alloc (.cells #[] 9) = W3 := ⟨_, rfl⟩
  have hown3 : W3.ownsMap Try.prog 9 (plainElem (H := Unit) Try.prog 9) B (p0 :: ps).length D := by rw [← hW3]; exact (hown.alloc _).alloc _
  have hsz3 : W3.heap.size = w2.heap.size + 2 := by rw [← hW3]; simp
  have hk3 : W3.ownsRow w.heap.size 9 1 (.slice (some ⟨w2.heap.size, 0, none⟩) 0 0) 0 (([] : List (List UInt8)).map sv) := by rw [← hW3]; exact (World.ownsRow_made w2 #[] 0 hsz2 (by simp [maxLen]) rfl).alloc _
  have hv3 : W3.ownsRow w.heap.size 9 1 (.slice (some ⟨w2.heap.size + 1, 0, none⟩) 0 0) 0 [] := by
    rw [← hW3]
    have := World.ownsRow_made (base := w.heap.size) (e := 9) (size := 1) (w2.alloc (.cells #[] 9)) #[] 0 (by simp; omega) (by simp [maxLen]) rfl
    simpa using this
  have hb3 : Below w.heap.size w W3 := by rw [← hW3]; exact (hb2.alloc hsz2 _).alloc (by simp; omega) _
  rw [hW3]
  obtain ⟨L0, hL0⟩ : ∃ L0, (p0 :: ps).length = L0 := ⟨_, rfl⟩
  rw [hL0] at hown3
  have Hown3 := hide hown3
  have Hk3 := hide hk3
  have Hv3 := hide hv3
  have Hb3 := hide hb3
  have Hsz3 := hide hsz3
  clear hown hown3 hk3 hv3 hb3 hsz3 hW3 hb2
  go_wp2_with (at_range; refine wpList_range_own _ rfl _ 32 rfl 9 9 strLaw Try.underlying32 _ B L0 D rfl Hown3.out ?_; intro w0 hrg0 hg0 hs0)
  go_frame
  have hr0 : GaRel w B W3.heap.size (w2.heap.size + 1) D L0 (Maps.has D) (Maps.size D) (some ⟨w2.heap.size, 0, none⟩) 0 0 [] w0 := by
    have hsz3 := Hsz3.out
    have hsl := Hown3.out.size_le
    refine ⟨hrg0, row_kept Hk3.out hg0 (fun k _ e => by cases e), row_kept Hv3.out hg0 (fun k _ e => by cases e), rfl, by omega, by simp, Collected.start D, ?_, ?_, ?_, by omega, by omega, Hb3.out.grown hg0 Hb3.out.size (fun k e => by cases e)⟩
    · intro e; simp [blk] at e; omega
    · intro e; simp [blk] at e; omega
    · intro e; simp [blk] at e
  have Hr0 := hide hr0
  have HD := hide hD
  clear hr0 hrg0 hg0 hs0 hD
  go_loopg [7] L0 (fun gc v wr => ∃ (left : Lit → Bool) (cnt k ck : Nat) (Ak : Option Addr) (ss : List (List UInt8)), cnt ≤ gc ∧ v = .slice Ak k ck ∧ Hid (GaRel w B W3.heap.size (w2.heap.size + 1) D L0 left cnt Ak k ck ss wr))
  case atStart => exact ⟨_, Maps.size D, 0, 0, _, [], Hown3.out.size_le, rfl, Hr0⟩
  case round =>
    obtain ⟨left, cnt, k, ck, Ak, ss, hcg, rfl, hr⟩ := hrel
    go_wp2_with (at_next; refine wpList_next_ranges (α := List UInt8) (β := ByteArray) _ rfl _ rfl 9 strLaw (plainElem (H := Unit) Try.prog 9) (fun x => sv x) Value.string (fun key kl hk => by obtain ⟨x, hx, _⟩ := Maps.keyOf_str Try.underlying9 hk; exact ⟨x, hx⟩) (fun v y hv => by obtain ⟨c, rfl, _⟩ := plainElem_string_inv Try.underlying9 hv; exact ⟨c, rfl⟩) B W3.heap.size L0 D left cnt rfl hr.out.rg ?_ ?_)
    · intro hc0 hl0
      have hperm := gathered HD.out hr.out.col hl0 Hnd.out
      obtain ⟨gk, rfl, hgk1, hgk2⟩ := own_form hr.out.own hr.out.nn
      have hL := hperm.length_eq
      have hsl := hr.out.sl
      rw [List.length_map, hL0] at hL
      have h10' := H10.out
      rw [hL0] at h10'
      have hk12 : k ≤ 12 := by omega
      have hown5 : MapHas wr B (p0 :: ps) := ⟨D, by rw [hL0]; exact hr.out.rg.owns, HD.out⟩
      have hS : Strs wr w.heap.size gk k ck ss := hr.out.own
      have Hperm := hide hperm
      have Hown5 := hide hown5
      clear hperm hown5 hL
      go_upto_region 8 with (go_at_call 12; refine (strings_any _ hS hk12).mono ?_; rintro e w5 ⟨rfl, ys, hp, hs, hg5⟩)
      have hv0 : VaRel w B gk k ck (p0 :: ps) ys (some ⟨w2.heap.size + 1, 0, none⟩) 0 0 [] w5 :=
        ⟨Hown5.out.kept hg5 (fun e => hr.out.apB e.symm), hs, row_kept hr.out.val hg5 (fun b hb e => hr.out.apv (by rw [← hb] at e; exact e)), rfl, by simp, fun j p _ hj => absurd hj (by omega), fun e => by have := Hown5.out; obtain ⟨D', h1, _⟩ := this; have hl1 := h1.lt; simp [blk] at e; omega, fun e => hr.out.apv (by simp [blk] at e ⊢; omega), hr.out.bel.grown hg5 hr.out.bel.size (fun k e => by injection e with e; omega)⟩
      have Hv0 := hide hv0
      have Hp2 := hide (hp.trans Hperm.out)
      clear hv0 hp hs hg5
      go_wp2
      go_loopg [8, 33] k (fun gi v iv wq => ∃ (i cv : Nat) (Av : Option Addr) (gs : List (List UInt8)), k - i ≤ gi ∧ i ≤ k ∧ iv = .int .i64 (i : Int) ∧ v = .slice Av i cv ∧ Hid (VaRel w B gk k ck (p0 :: ps) ys Av i cv gs wq))
      case atStart => exact ⟨0, 0, _, [], by omega, Nat.zero_le _, rfl, rfl, Hv0⟩
      case round =>
        obtain ⟨i, cv, Av, gs, hgi, hik, rfl, rfl, hq⟩ := hrel
        by_cases hlt : i < k
        · obtain ⟨x, hx⟩ : ∃ x, ys[i]? = some x := ⟨_, List.getElem?_eq_getElem (by have := hq.out.keys.len; omega)⟩
          obtain ⟨p, hp, hpx⟩ := List.mem_map.1 (Hp2.out.mem_iff.1 (List.mem_of_getElem? hx))
          rw [← hpx] at hx
          have cx := hq.out.keys.cell hx
          have hlook := hq.out.mp.look hp (hle p hp)
          obtain ⟨Av', cv', w6, hrun, hq2⟩ := hq.out.next hp hx Hnd.out (by omega)
          have Hrun := hide hrun
          have Hlook := hide hlook
          have Hq2 := hide hq2
          clear hrun hlook hq2 hx hp hpx
          go_wp2_with (first
            | ((with_reducible refine wpList_lookup_run Hlook.out _ _ ?_ rfl ?_ ?_ ?_); (rfl); (rfl); (rfl))
            | (at_builtin; (with_reducible refine wpList_append_runG Hrun.out _ _ ?_ rfl rfl ?_ ?_ ?_); (rfl); (rfl); (rfl)))
          go_roundg (k - (i + 1))
          case rel => exact ⟨i + 1, cv', Av', _, Nat.le_refl _, by omega, by go_num, rfl, Hq2⟩
          case measure => omega
        · obtain rfl : i = k := by omega
          obtain ⟨gv, rfl, hgv1, hgv2⟩ := own_form hq.out.own hq.out.nn
          go_wp2
          go_ret3
          exact ⟨_, _, _, _, _, ys, gs, rfl, hq.out.keys, hq.out.own, Hp2.out, fun j p hp hj => hq.out.dat j p hp (by have h1 := (List.getElem?_eq_some_iff.1 hj).1; have := hq.out.keys.len; omega) hj, hq.out.bel⟩
    · intro x c kl yd yp w4 cnt2 hkey hlk hv hat hrg2 hlt hg2 hs2 hen
      obtain ⟨x', ex, rfl, _⟩ := Maps.keyOf_str Try.underlying9 hkey
      obtain rfl : x = x' := encStr_inj ex
      obtain ⟨Ak', ck', w5, hrun, hr2⟩ := hr.out.next hlk hat hrg2 hlt hg2 (by have := H10.out; omega)
      have Hrun := hide hrun
      have Hr2 := hide hr2
      clear hrun hr2 hs2 hkey hlk hv hat hrg2 hg2 ex
      go_wp2_with (at_builtin; (with_reducible refine wpList_append_runG Hrun.out _ _ ?_ rfl rfl ?_ ?_ ?_); (rfl); (rfl); (rfl))
      go_roundg cnt2
      case rel => exact ⟨_, cnt2, k + 1, ck', Ak', _, Nat.le_refl _, rfl, Hr2⟩
      case measure => omega
end Go.Proofs.Ytndoaeipcdcahaa
