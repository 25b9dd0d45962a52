/- What the joining of lists of bytes returns: a new row with all of their bytes. Condition: together they are shorter than 2^31. -/
import Derived.Test.YtggemljdmoegnaaDoorDecW
namespace Go.Proofs.YtggemljdmoegnaaDoor
open Go.RowKit
set_option linter.unusedVariables false

/-- A slice of slices of bytes in one new block: what it holds. -/
structure Part where
  A : Option Addr
  c : Nat
  l : List UInt8
def parts (L : List Part) : List UInt8 := (L.map (·.l)).flatten
def HasParts (w : World) (g : Nat) (L : List Part) : Prop := ∀ (i : Nat) (x : Part), L[i]? = some x → w.cell? ⟨g, i, none⟩ = some (.slice x.A x.l.length x.c) ∧ BS w x.A x.l
theorem HasParts.below {w w' : World} {g : Nat} {L : List Part} (h : HasParts w g L) (hb : Below w.heap.size w w') : HasParts w' g L := fun i x hx =>
  ⟨(hb.cell (block_lt_of_cell (h i x hx).1)).trans (h i x hx).1, (h i x hx).2.below hb⟩
theorem parts_take {L : List Part} {k : Nat} {x : Part} (h : L[k]? = some x) : parts (L.take (k + 1)) = parts (L.take k) ++ x.l := by
  obtain ⟨hk, e⟩ := List.getElem?_eq_some_iff.1 h
  simp [parts, List.take_succ_eq_append_getElem hk, e]
theorem parts_le {L : List Part} : ∀ (j k : Nat), k + j = L.length → (parts (L.take k)).length ≤ (parts L).length := by
  intro j
  induction j with
  | zero => intro k h; rw [List.take_of_length_le (by omega)]; exact Nat.le_refl _
  | succ j ih =>
    intro k h
    have h1 := parts_take (L := L) (k := k) (List.getElem?_eq_getElem (by omega))
    have h2 := ih (k + 1) (by omega)
    rw [h1, List.length_append] at h2
    omega

set_option maxHeartbeats 400000 in
theorem join_any (g : Nat) (L : List Part) (w : World) (h : HasParts w g L) (hsum : (parts L).length ≤ 2147483647) (hL : L.length ≤ 100) :
    Calls Tryd.prog 8 #[.slice (some ⟨g, 0, none⟩) L.length L.length] w (OwnRet (parts L) w) := by
  have Hp := hide h
  clear h
  go_enter Tryd.func8, Tryd.ntmps8
  go_wp2
  go_loopw [3, 9] (fun v i wr => ∃ (k n : Nat) (A' : Option Addr) (c' : Nat) (out : List UInt8), k ≤ L.length ∧ i = .int .i64 k ∧ v = .slice A' n c' ∧ OwnB wr w.heap.size A' n c' out ∧ Hid (out = parts (L.take k)) ∧ Below w.heap.size w wr)
    (fun _ i _ => L.length - (intOf i).toNat)
  case atStart => exact ⟨0, 0, _, _, [], Nat.zero_le _, rfl, rfl, OwnB.empty w (Nat.le_refl _) rfl, hide rfl, (Below.refl _ _).alloc (Nat.le_refl _) _⟩
  case round =>
    obtain ⟨k, n, A', c', out, hk, rfl, rfl, own, ho, hbel⟩ := hrel
    by_cases hlt : k < L.length
    · obtain ⟨x, hx⟩ : ∃ x, L[k]? = some x := ⟨_, List.getElem?_eq_getElem hlt⟩
      obtain ⟨cell1, bsx⟩ := (Hp.out.below hbel) k x hx
      have hsz := hbel.size
      have hn := own.len
      have h1 := parts_take hx
      have h2 := parts_le (L := L) (L.length - (k + 1)) (k + 1) (by omega)
      rw [h1, ← ho.out, List.length_append] at h2
      obtain ⟨A2, c2, w2, hrun, own2, hg2, _⟩ := run_append8 (P := Tryd.prog) 22 22 Tryd.underlying22 u8_info own bsx x.l.length x.c rfl (by omega) hsz
      have hbel2 := own.bel hbel hg2 hsz
      have Ho2 := hide (show out ++ x.l = parts (L.take (k + 1)) by rw [h1, ← ho.out])
      have Hrun := hide hrun
      clear hrun own ho hg2 hbel h1 h2 hn hx
      go_wp2_with (at_builtin; refine wpList_append_run Hrun.out rfl _ _ rfl rfl rfl rfl ?_)
      go_roundw
      case rel => exact ⟨k + 1, n + x.l.length, A2, c2, _, by omega, by go_num, rfl, own2, Ho2, hbel2⟩
      case measure => simp [intOf]; omega
    · obtain rfl : k = L.length := by omega
      have H2 := ho.out
      rw [List.take_length] at H2
      have hn := own.len
      rw [H2] at hn
      rw [H2] at own
      have H3 := hide hn
      clear H2 hn ho
      go_wp2
      go_ret
      exact ⟨A', c', by rw [H3.out]; rfl, by rw [H3.out]; exact own, hbel⟩
/-- Two lists in a new block, one behind the other. -/
theorem HasParts.two {w : World} {g : Nat} (hg : w.heap.size = g) (A B : Option Addr) (n m c d : Nat) (l r : List UInt8) (e : TypeId) (hn : l.length = n) (hm : r.length = m) (h : BS w A l) (k : BS w B r) :
    HasParts (w.alloc (.cells #[.slice A n c, .slice B m d] e)) g [⟨A, c, l⟩, ⟨B, d, r⟩] := by
  subst hg hn hm
  intro i x hx
  match i, hx with
  | 0, hx => simp at hx; subst hx; exact ⟨by simp, h.alloc _⟩
  | 1, hx => simp at hx; subst hx; exact ⟨by simp, k.alloc _⟩
theorem join_two (g : Nat) (A B : Option Addr) (c d : Nat) (l r : List UInt8) (w : World) (h : HasParts w g [⟨A, c, l⟩, ⟨B, d, r⟩]) (hsum : (l ++ r).length ≤ 2147483647) :
    Calls Tryd.prog 8 #[.slice (some ⟨g, 0, none⟩) 2 2] w (OwnRet (l ++ r) w) := by
  have := join_any g [⟨A, c, l⟩, ⟨B, d, r⟩] w h (by simpa [parts] using hsum) (by simp)
  simpa [parts] using this
end Go.Proofs.YtggemljdmoegnaaDoor
