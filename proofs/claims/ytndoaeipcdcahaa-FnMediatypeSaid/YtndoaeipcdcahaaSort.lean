/- The library's sort of at most twelve strings leaves a permutation of them. Condition: the slice is the call's own and has at most twelve elements. -/
import Derived.Test.YtndoaeipcdcahaaWords
import Derived.Deep.DeepCutAuto
namespace Go.Proofs.Ytndoaeipcdcahaa
open Go.RowKit
set_option linter.unusedVariables false
set_option linter.unusedSimpArgs false

/-- The value of a string. -/
abbrev sv (x : List UInt8) : Value := .string ⟨x.toArray⟩
/-- A row of strings of the call's own. -/
def Strs (w : World) (base g n cap : Nat) (xs : List (List UInt8)) : Prop := w.ownsRow base 9 1 (.slice (some ⟨g, 0, none⟩) n cap) n (xs.map sv)
section
variable {w w' : World} {base g n cap : Nat} {xs ys : List (List UInt8)}
theorem Strs.len (h : Strs w base g n cap xs) : xs.length = n := by have := h.1; simpa using this
theorem Strs.cell (h : Strs w base g n cap xs) {i : Nat} {x : List UInt8} (hi : xs[i]? = some x) : w.cell? ⟨g, i, none⟩ = some (sv x) := by
  have hl := h.len
  have h1 := (List.getElem?_eq_some_iff.1 hi).1
  have := World.ownsRow.cellAt h i (by omega)
  rw [this, List.getElem?_map, hi]
  rfl
theorem Strs.frz (h : Strs w base g n cap xs) (i : Nat) : w.frozen? ⟨g, i, none⟩ = false := World.ownsRow.frozenAt h i
theorem Strs.drewN (h : Strs w base g n cap xs) (k : Nat) : Strs (w.drewN k) base g n cap xs := h
theorem Strs.set (h : Strs w base g n cap xs) (i : Nat) (x : List UInt8) : Strs (w.setCell ⟨g, i, none⟩ (sv x)) base g n cap (xs.set i x) := by
  have := (World.ownsRow.stored h i (sv x)).1
  rwa [← List.map_set] at this
theorem grown_drewN (w : World) (n : Nat) (row : Option Nat) : w.grownBy (w.drewN n) row := ⟨rfl, rfl, rfl, Nat.le_refl _, fun _ _ _ => rfl⟩
theorem grown_cell (w : World) (g i : Nat) (v : Value) : w.grownBy (w.setCell ⟨g, i, none⟩ v) (some g) := ⟨rfl, rfl, rfl, by simp, fun k _ hk => heap_setCell_other w ⟨g, i, none⟩ k v (fun e => hk (by simp [e]))⟩
theorem perm_swap {α : Type} {xs : List α} {j : Nat} {x y : α} (hx : xs[j]? = some x) (hy : xs[j + 1]? = some y) : ((xs.set (j + 1) x).set j y).Perm xs := by
  obtain ⟨h1, e1⟩ := List.getElem?_eq_some_iff.1 hx
  obtain ⟨h2, e2⟩ := List.getElem?_eq_some_iff.1 hy
  have e : xs = xs.take j ++ x :: y :: xs.drop (j + 2) := by
    conv => lhs; rw [← List.take_append_drop j xs]
    rw [List.drop_eq_getElem_cons h1, e1, List.drop_eq_getElem_cons h2, e2]
  have hl : (xs.take j).length = j := by simp; omega
  generalize xs.take j = A at e hl
  generalize xs.drop (j + 2) = B at e
  subst e
  subst hl
  have s1 : (A ++ x :: y :: B).set (A.length + 1) x = A ++ x :: x :: B := by
    rw [List.set_append_right _ _ (by omega)]
    simp
  rw [s1, List.set_append_right _ _ (Nat.le_refl _)]
  simp only [Nat.sub_self, List.set_cons_zero]
  exact List.Perm.append_left _ (List.Perm.swap _ _ _)
def ABool (w : World) (e : Ending) (w' : World) : Prop := (∃ r, e = .returned (.bool r)) ∧ w = w'
theorem nan_any (x : ByteArray) (w : World) : Calls Try.prog 33 #[.string x] w (ABool w) := by
  go_enter Try.func33, Try.ntmps33
  go_wp2
  go_ret
  exact ⟨⟨_, rfl⟩, rfl⟩
theorem nan_no (x : ByteArray) (w : World) : Calls Try.prog 33 #[.string x] w fun e w' => e = .returned (.bool false) ∧ w = w' := by
  go_enter Try.func33, Try.ntmps33
  go_wp2
  go_ret
  exact ⟨rfl, rfl⟩
theorem less_n (x y : ByteArray) (r : Bool) (w : World) (hr : Op.bytesLess x.toList y.toList = r) : Calls Try.prog 23 #[.string x, .string y] w fun e w' => e = .returned (.bool r) ∧ w = w' := by
  subst hr
  go_enter Try.func23, Try.ntmps23
  go_wp2_with (go_at_call 33; (with_reducible refine (nan_no _ _).mono ?_); rintro e w2 ⟨rfl, rfl⟩)
  go_ret
  exact ⟨rfl, rfl⟩
set_option maxHeartbeats 2000000 in
theorem insertion (w : World) (h : Strs w base g n cap xs) (hn : n ≤ 12) :
    Calls Try.prog 17 #[.slice (some ⟨g, 0, none⟩) n cap, .int .i64 0, .int .i64 (n : Int)] w fun e w' => e = .returned (.tuple #[]) ∧ ∃ ys, ys.Perm xs ∧ Strs w' base g n cap ys ∧ w.grownBy w' (some g) := by
  have H0 := hide h
  clear h
  go_enter Try.func17, Try.ntmps17
  go_wp2
  go_loopg [6] n (fun gk iv wr => ∃ (i : Nat) (ys : List (List UInt8)), n - i ≤ gk ∧ 1 ≤ i ∧ iv = .int .i64 (i : Int) ∧ Hid (ys.Perm xs) ∧ Hid (Strs wr base g n cap ys) ∧ Hid (w.grownBy wr (some g)))
  case atStart => exact ⟨1, xs, by omega, Nat.le_refl _, by go_num, List.Perm.refl _, H0, World.grownBy.refl w _⟩
  case round =>
    obtain ⟨i, ys, hgk, hi1, rfl, hp, hr, hg⟩ := hrel
    by_cases hlt : i < n
    · go_wp2
      go_loopg [7] i (fun gj jv wj => ∃ (j : Nat) (zs : List (List UInt8)), j ≤ gj ∧ j ≤ i ∧ jv = .int .i64 (j : Int) ∧ Hid (zs.Perm xs) ∧ Hid (Strs wj base g n cap zs) ∧ Hid (w.grownBy wj (some g)))
      case atStart => exact ⟨i, ys, Nat.le_refl _, Nat.le_refl _, rfl, hp, hr, hg⟩
      case round =>
        obtain ⟨j, zs, hgj, hji, rfl, hp2, hr2, hg2⟩ := hrel
        by_cases hj0 : 0 < j
        · obtain ⟨k, rfl⟩ : ∃ k, j = k + 1 := ⟨j - 1, by omega⟩
          have hlen := hr2.out.len
          obtain ⟨x, hx⟩ : ∃ x, zs[k]? = some x := ⟨_, List.getElem?_eq_getElem (by omega)⟩
          obtain ⟨y, hy⟩ : ∃ y, zs[k + 1]? = some y := ⟨_, List.getElem?_eq_getElem (by omega)⟩
          have cx := hr2.out.cell hx
          have cy := hr2.out.cell hy
          have f1 := hr2.out.frz k
          have f2 := hr2.out.frz (k + 1)
          obtain ⟨r, hrr⟩ : ∃ r, Op.bytesLess (⟨y.toArray⟩ : ByteArray).toList (⟨x.toArray⟩ : ByteArray).toList = r := ⟨_, rfl⟩
          have hd : decide ((0 : Int) < ((k + 1 : Nat) : Int)) = true := decide_eq_true (by omega)
          have ek : (((k + 1 : Nat) : Int)) - 1 = (k : Int) := by omega
          have kw : IntKind.i64.wrap ((k : Int) + 1) = (k : Int) + 1 := by rw [IntKind.wrap_i64]; omega
          go_wp2
          go_quiet ((go_at_call 23; exact quiet_left (less_n _ _ r _ hrr)))
          cases r
          · go_wp2
            go_roundg (n - (i + 1))
            case rel => exact ⟨i + 1, zs, Nat.le_refl _, by omega, by go_num, hp2, hr2, hg2.out.trans (grown_drewN wr nq _)⟩
            case measure => omega
          · go_wp2
            go_region
            go_wp2
            go_roundg k
            case rel => exact ⟨k, _, Nat.le_refl _, by omega, rfl, (perm_swap hx hy).trans hp2.out, (((hr2.out.drewN nq).drewN 1).set (k + 1) x).set k y, ((hg2.out.trans (grown_drewN wr (nq + 1) _)).trans (grown_cell _ g (k + 1) _)).trans (grown_cell _ g k _)⟩
            case measure => omega
        · have hd : decide ((0 : Int) < ((j : Nat) : Int)) = false := decide_eq_false (by omega)
          go_wp2
          go_quiet (fail)
          go_wp2
          go_roundg (n - (i + 1))
          case rel => exact ⟨i + 1, zs, Nat.le_refl _, by omega, by go_num, hp2, hr2, hg2.out.trans (grown_drewN wr nq _)⟩
          case measure => omega
    · go_wp2
      go_end0
      exact ⟨rfl, ys, hp.out, hr.out, hg.out⟩
end
end Go.Proofs.Ytndoaeipcdcahaa
