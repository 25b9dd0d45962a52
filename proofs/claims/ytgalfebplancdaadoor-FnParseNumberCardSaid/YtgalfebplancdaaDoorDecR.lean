/- The decoding of the rune at the head of a slice: what a walk needs of it. Condition: the two tables of runes as laid. -/
import Derived.Test.YtgalfebplancdaaDoorWords
import Derived.Shelf.Spec.DecodeRune
import Derived.Test.YtgalfebplancdaaDoorShelf
namespace Go.Proofs.YtgalfebplancdaaDoor
open Go.RowKit
set_option linter.unusedVariables false

/-- The tables of runes. -/
def UTabs (w : World) : Prop := Lib.Utf8Tabs (sh32_ren.g 2) (sh32_ren.g 3) w
theorem UTabs.below {w w' : World} (h : UTabs w) (hb : Below w.heap.size w w') : UTabs w' := Utf8Tabs_below h hb
set_option maxHeartbeats 1000000 in
theorem decR_lo (b o n c : Nat) (x : Int) (w : World) (hc : w.cell? ⟨b, o, none⟩ = some (.int .u8 x)) (hn : 0 < n) (hx : x < 128 ∧ 0 ≤ x) :
    Calls Tryd.prog 11 #[.slice (some ⟨b, o, none⟩) n c] w fun e w' => e = .returned (.tuple #[.int .i32 x, .int .i64 1]) ∧ w = w' := by
  obtain ⟨hx1, hx2⟩ := hx
  have hn0 : (0 : Int) < (n : Int) := by omega
  go_enter Tryd.func11, Tryd.ntmps11
  go_wp2
  go_loop [8] (fun i => i = .int .i64 0) (fun _ => 0)
  case atStart => rfl
  case round =>
    subst hrel
    go_wp2
    go_ret2
    exact ⟨rfl, rfl⟩
theorem decodeN_hi {n b0 b1 b2 b3 : Nat} (h : 128 ≤ b0) : 128 ≤ (Lib.decodeN n b0 b1 b2 b3).1 := by
  unfold Lib.decodeN
  rw [if_neg (by omega)]
  repeat' split
  all_goals simp only
  all_goals omega
theorem decR_hi (b o n c : Nat) (L : List UInt8) (x : UInt8) (w : World) (hn : L.length = n) (h : BS w (some ⟨b, o, none⟩) L) (h0 : L[0]? = some x) (hx : 128 ≤ x.toNat) (hT : UTabs w) :
    Calls Tryd.prog 11 #[.slice (some ⟨b, o, none⟩) n c] w fun e w' => ∃ r z : Int, (r == 44) = false ∧ (r == 46) = false ∧ e = .returned (.tuple #[.int .i32 r, .int .i64 z]) ∧ Below w.heap.size w w' := by
  subst hn
  obtain ⟨s, hs⟩ : ∃ s : ByteArray, s = ⟨L.toArray⟩ := ⟨_, rfl⟩
  have hsz : s.size = L.length := by rw [hs]; rfl
  have hget : ∀ j, j < L.length → s.get! j = L[j]! := fun j hj => by
    rw [hs]
    show L.toArray[j]! = _
    simp [getElem!_pos, hj]
  have key := Any7.utf8_DecodeRune (P := Tryd.prog) (ρ := sh32_ren) sh32 s b o c w hT (fun j hj => by
    rw [hsz] at hj
    obtain ⟨b1, o1, e, cell⟩ := h.at_ (List.getElem?_eq_getElem hj)
    simp only [Option.some.injEq, Addr.mk.injEq, and_true] at e
    obtain ⟨rfl, rfl⟩ := e
    rw [cell, hget j hj, getElem!_pos L j hj])
  rw [hsz] at key
  refine key.mono fun e w' ⟨he, hb⟩ => ?_
  have hl : 0 < L.length := (List.getElem?_eq_some_iff.1 h0).1
  have hr : 128 ≤ (Lib.decodeGo s).1 := by
    unfold Lib.decodeGo
    rw [if_neg (by omega), Lib.decode_at]
    refine decodeN_hi ?_
    rw [hget 0 hl, getElem!_pos L 0 hl]
    rw [List.getElem?_eq_getElem hl] at h0
    rw [Option.some.inj h0]
    exact hx
  exact ⟨_, _, by rw [beq_eq_false_iff_ne]; omega, by rw [beq_eq_false_iff_ne]; omega, he, hb⟩
end Go.Proofs.YtgalfebplancdaaDoor
