/- The reference's pieces of a text with entities. Conditions: words, names and texts as tested; the number not below zero. -/
import Derived.Test.YtnepjlfkbmindaaDoorItm
import Derived.Test.YtnepjlfkbmindaaDoorEnt
import Derived.Test.YtnepjlfkbmindaaDoorPl
import Derived.Test.YtnepjlfkbmindaaDoorDecW
import Derived.Test.YtnepjlfkbmindaaDoorCat
namespace Go.Proofs.YtnepjlfkbmindaaDoor
open Go.RowKit
set_option linter.unusedVariables false
set_option linter.unusedSimpArgs false

/-- What comes back. -/
def OldNew (W0 w : World) (A : Option Addr) (l : List UInt8) : Prop := BS W0 A l ∨ ∀ k, blk A = some k → w.heap.size ≤ k
def PcRet (nt : NT) (W0 w : World) (e : Ending) (w' : World) : Prop := ∃ (A1 A2 : Option Addr) (n1 c1 n2 c2 : Nat) (b : Bool), e = .returned (.tuple #[.slice A1 n1 c1, .slice A2 n2 c2, .bool b]) ∧ Below w.heap.size w w' ∧
  (b = true → ∃ its : List It, BS w' A1 (srcs its) ∧ (srcs its).length = n1 ∧ n1 ≤ 100 ∧ BS w' A2 (dsts its) ∧ (dsts its).length = n2 ∧ n2 ≤ 100 ∧ (∀ it ∈ its, ItOk nt it) ∧ OldNew W0 w A2 (dsts its))
theorem srcs_bytes (l : List UInt8) : srcs (l.map It.byte) = l := by
  induction l with
  | nil => rfl
  | cons x l ih => show x :: srcs (l.map It.byte) = _; rw [ih]
theorem dsts_bytes (l : List UInt8) : dsts (l.map It.byte) = l := by
  induction l with
  | nil => rfl
  | cons x l ih => show x :: dsts (l.map It.byte) = _; rw [ih]
theorem ok_bytes {nt : NT} {l : List UInt8} (h : PlainB l) : ∀ it ∈ l.map It.byte, ItOk nt it := fun it hit => by
  obtain ⟨x, hx, rfl⟩ := List.mem_map.1 hit
  obtain ⟨j, hj⟩ := List.getElem?_of_mem hx
  exact h.1 j x hj
theorem one_ent {nt : NT} {f t : List UInt8} (h : IsEnt nt f t) : srcs [.ent f t] = f ∧ dsts [.ent f t] = t ∧ ∀ it ∈ [It.ent f t], ItOk nt it :=
  ⟨by simp [srcs, It.src], by simp [dsts, It.dst], fun it hit => by simp at hit; subst hit; exact h⟩
set_option maxRecDepth 100000 in
set_option maxHeartbeats 1000000 in
theorem piece0 (kn : Nat) (A1 A2 A3 : Option Addr) (c1 c2 c3 nw nn : Nat) (ws : List (List UInt8)) (nt : NT) (W0 w : World) (hk : (kn : Int) ≤ 9223372036854775807) (hw : 0 < nw) (h4 : kn % 4 = 0) (h10 : LL W0 A1 ws) (hB0 : Below W0.heap.size W0 w) (hn : ws.length = nw) (hl : ∀ (i : Nat) (x : List UInt8), ws[i]? = some x → x.length ≤ 2147483647) :
    Calls Tryd.prog 6 #[.int .i64 (kn : Int), .slice A1 nw c1, .slice A2 nn c2, .slice A3 nn c3] w (PcRet nt W0 w) := by
  obtain ⟨j, hj⟩ : ∃ j, kn / 4 % nw = j := ⟨_, rfl⟩
  have hjn : j < nw := by rw [← hj]; exact Nat.mod_lt _ hw
  have hjI : (kn : Int) / 4 % (nw : Int) = (j : Int) := by rw [← hj]; simp
  have e0 : ((kn : Int) % 4 == 0) = true := by rw [beq_iff_eq]; omega
  obtain ⟨x, hx⟩ : ∃ d, ws[j]? = some d := ⟨_, List.getElem?_eq_getElem (by omega)⟩
  obtain ⟨b, o, X, cx, rfl, hcx0, hxc, hbx0⟩ := h10 j x hx
  have hcx := (hB0.cell (block_lt_of_cell hcx0)).trans hcx0
  have hbx := hbx0.below hB0
  have Hbx0 := hide hbx0
  clear hcx0 hbx0
  have hxl := hl j x hx
  obtain ⟨nx, hnx⟩ : ∃ q, x.length = q := ⟨_, rfl⟩
  rw [hnx] at hcx hxc hxl
  have Hnx := hide hnx
  have hnw : ¬ ((nw : Int) = 0) := by omega
  clear hx hnx hj h4
  go_enter Tryd.func6, Tryd.ntmps6
  go_wp2_with (go_at_call 13; (with_reducible refine (plain_any X x cx nx _ hbx Hnx.out hxl).mono ?_); rintro e wf (⟨rfl, hp, rfl⟩ | ⟨rfl, rfl⟩))
  · go_ret3
    exact ⟨X, X, nx, cx, nx, cx, true, rfl, Below.refl _ _, fun _ => ⟨x.map It.byte, by rw [srcs_bytes]; exact hbx, by rw [srcs_bytes]; exact Hnx.out, by have := hp.2; rw [Hnx.out] at this; exact this, by rw [dsts_bytes]; exact hbx, by rw [dsts_bytes]; exact Hnx.out, by have := hp.2; rw [Hnx.out] at this; exact this, ok_bytes hp, .inl (by rw [dsts_bytes]; exact Hbx0.out)⟩⟩
  · go_ret3
    exact ⟨X, X, nx, cx, nx, cx, false, rfl, Below.refl _ _, fun h => by cases h⟩
set_option maxRecDepth 100000 in
set_option maxHeartbeats 1000000 in
theorem pieceN (k : Int) (A1 A2 A3 : Option Addr) (c1 c2 c3 nw nn : Nat) (nt : NT) (W0 w : World) (hk : k < 0) :
    Calls Tryd.prog 6 #[.int .i64 k, .slice A1 nw c1, .slice A2 nn c2, .slice A3 nn c3] w (PcRet nt W0 w) := by
  go_enter Tryd.func6, Tryd.ntmps6
  go_wp2
  go_ret3
  exact ⟨none, none, 0, 0, 0, 0, false, rfl, Below.refl _ _, fun h => by cases h⟩
set_option maxRecDepth 100000 in
set_option maxHeartbeats 1000000 in
theorem piece1z (kn : Nat) (A1 A2 A3 : Option Addr) (c1 c2 c3 nw : Nat) (nt : NT) (W0 w : World) (hk : (kn : Int) ≤ 9223372036854775807) (h4 : kn % 4 = 1) :
    Calls Tryd.prog 6 #[.int .i64 (kn : Int), .slice A1 nw c1, .slice A2 0 c2, .slice A3 0 c3] w (PcRet nt W0 w) := by
  have e0 : ((kn : Int) % 4 == 0) = false := by rw [beq_eq_false_iff_ne]; omega
  have e1 : ((kn : Int) % 4 == 1) = true := by rw [beq_iff_eq]; omega
  clear h4
  go_enter Tryd.func6, Tryd.ntmps6
  go_wp2
  go_ret3
  exact ⟨none, none, 0, 0, 0, 0, true, rfl, Below.refl _ _, fun _ => ⟨[], BS.nil _ _, rfl, by omega, BS.nil _ _, rfl, by omega, fun it hit => by simp at hit, .inl (BS.nil _ _)⟩⟩
end Go.Proofs.YtnepjlfkbmindaaDoor
