/- The reference's pieces, all. Conditions: words, names and texts as tested. -/
import Derived.Test.YtnepjlfkbmindaaDoorPc1
namespace Go.Proofs.YtnepjlfkbmindaaDoor
open Go.RowKit
set_option linter.unusedVariables false
set_option linter.unusedSimpArgs false

theorem an_of {d : UInt8} (h : isLt d ∨ (48 ≤ d.toNat ∧ d.toNat ≤ 57)) : isAn d := by
  unfold isLt at h
  unfold isAn
  omega
theorem small_of {x : List UInt8} (hw : IsW x) (hl : ∀ (j : Nat) (d : UInt8), x[j]? = some d → isLt d) : ∀ d ∈ x, isSmall d := fun d hd => by
  obtain ⟨j, hj⟩ := List.getElem?_of_mem hd
  have h1 := hw.2.2 j d hj
  have h2 := hl j d hj
  unfold okW at h1
  unfold isLt at h2
  unfold isSmall
  omega
/-- The names with their texts. -/
theorem nt_ok {ns ts : List (List UInt8)} (h : EntsOk ns ts) : NtOk (ns.zip ts) := fun p hp => by
  obtain ⟨j, hj⟩ := List.getElem?_of_mem hp
  obtain ⟨x, y⟩ := p
  rw [List.getElem?_zip_eq_some] at hj
  have hq := h.2.2 j x y hj.1 hj.2
  have hw := h.1.1 x (List.mem_of_getElem? hj.1)
  exact ⟨hq.two, hw.2.1, small_of hw hq.let_, hq.one, hq.le, fun d hd => by
    obtain ⟨i, hi⟩ := List.getElem?_of_mem hd
    exact an_of (hq.an i d hi)⟩
theorem piece_any (k : Int) (A1 A2 A3 : Option Addr) (c1 c2 c3 nw nn : Nat) (ws ns ts : List (List UInt8)) (W0 w : World) (hk : k ≤ 9223372036854775807) (hw : 0 < nw) (h1 : LL W0 A1 ws) (h2 : LL W0 A2 ns) (h3 : LL W0 A3 ts) (hB0 : Below W0.heap.size W0 w) (hwn : ws.length = nw) (hn : ns.length = nn) (ht : ts.length = nn)
    (hl : ∀ (i : Nat) (x : List UInt8), ws[i]? = some x → x.length ≤ 2147483647) (he : EntsOk ns ts) :
    Calls Tryd.prog 6 #[.int .i64 k, .slice A1 nw c1, .slice A2 nn c2, .slice A3 nn c3] w (PcRet (ns.zip ts) W0 w) := by
  by_cases hneg : k < 0
  · exact pieceN k A1 A2 A3 c1 c2 c3 nw nn _ W0 w hneg
  obtain ⟨kn, rfl⟩ : ∃ kn : Nat, k = (kn : Int) := ⟨k.toNat, by omega⟩
  rcases (by omega : kn % 4 = 0 ∨ kn % 4 = 1 ∨ kn % 4 = 2 ∨ kn % 4 = 3) with h4 | h4 | h4 | h4
  · exact piece0 kn A1 A2 A3 c1 c2 c3 nw nn ws _ W0 w hk hw h4 h1 hB0 hwn hl
  · by_cases hz : 0 < nn
    · refine piece1 kn A1 A2 A3 c1 c2 c3 nw nn ns ts _ W0 w hk h4 hz h2 h3 hB0 hn ht (fun i x y hx hy => ?_)
      have hm : (x, y) ∈ ns.zip ts := List.mem_of_getElem? (i := i) (by rw [List.getElem?_zip_eq_some]; exact ⟨hx, hy⟩)
      have hq := he.2.2 i x y hx hy
      have hw := he.1.1 x (List.mem_of_getElem? hx)
      exact ⟨hm, hw.2.1, Nat.le_trans hq.le hw.2.1⟩
    · obtain rfl : nn = 0 := by omega
      exact piece1z kn A1 A2 A3 c1 c2 c3 nw _ W0 w hk h4
  · exact piece2 kn A1 A2 A3 c1 c2 c3 nw nn _ W0 w hk h4
  · exact piece3 kn A1 A2 A3 c1 c2 c3 nw nn _ W0 w hk h4
end Go.Proofs.YtnepjlfkbmindaaDoor
