/- An append to '[]byte(s)' of a string s that is no constant: what comes out reads as s and what was appended. Conditions: lengths below 2^32. -/
import Derived.Test.YteinmabdkkddiaaCat
import Derived.ArgAppend
namespace Go.Proofs.Yteinmabdkkddiaa
open Go.RowKit
set_option linter.unusedVariables false

theorem Below.setCells8 {B b : Nat} {a : World} (hb : B ≤ b) : ∀ (vs : List Value) (o : Nat) (w : World), Below B a w → Below B a (w.setCells b o vs)
  | [], _, _, h => h
  | v :: r, o, w, h => Below.setCells8 hb r (o + 1) _ (h.setCell (by exact hb) v)
/-- The world and the slice of '[]byte(s)'. -/
def loW (w : World) (s : ByteArray) (c : Nat) : World := w.drew.alloc (.cells (bytesRow s c) 5 ((bytesRow s c).size, (bytesRow s c).size + 1))
theorem lo_conv {P : Program} (w : World) (src dst : TypeId) (s : ByteArray) (hs : P.underlying src = some .string) (hd : P.underlying dst = some (.slice 5)) (he : P.underlying 5 = some (.int .u8)) :
    ∃ c, s.size ≤ c ∧ (convert src dst (.string s)).run P w = .ok (.slice (some ⟨w.heap.size, 0, none⟩) s.size c) (loW w s c) :=
  ⟨_, grownCap_ge _ _ _ _, run_bytes_of_string w src dst 5 s hs hd he⟩
theorem lo_size {s : ByteArray} {c : Nat} (hc : s.size ≤ c) : (bytesRow s c).size = c := by
  have : s.data.size = s.size := rfl
  simp [bytesRow, this]; omega
theorem lo_below (w : World) (s : ByteArray) (c : Nat) : Below w.heap.size w (loW w s c) := (Below.refl _ _).drew.alloc (Nat.le_refl _) _
theorem lo_cell (w : World) (s : ByteArray) (c j : Nat) : (loW w s c).cell? ⟨w.heap.size, j, none⟩ = (bytesRow s c)[j]? := World.cell?_alloc_mark w.drew _ _ _ j
theorem lo_bs (w : World) (s : ByteArray) (c : Nat) : BS (loW w s c) (some ⟨w.heap.size, 0, none⟩) s.data.toList := fun i hi => by
  refine ⟨w.heap.size, 0, rfl, ?_⟩
  rw [Nat.zero_add, lo_cell, bytesRow_at s c i (by simpa using hi)]
  simp
theorem addr_add0 (b o j : Nat) : (⟨b, o, none⟩ : Addr).add j = ⟨b, o + j, none⟩ := by
  unfold Addr.add
  split
  · rename_i h0; subst h0; rfl
  · rfl
theorem BS.news {w : World} {b o : Nat} {m : List UInt8} (h : BS w (some ⟨b, o, none⟩) m) : ∀ j u, (m.map bv)[j]? = some u → w.cell? ((⟨b, o, none⟩ : Addr).add j) = some u := fun j u hj => by
  obtain ⟨hj1, hj2⟩ := List.getElem?_eq_some_iff.1 hj
  have hj3 : j < m.length := by simpa using hj1
  obtain ⟨b', o', e, hc⟩ := h j hj3
  simp only [Option.some.injEq, Addr.mk.injEq, and_true] at e
  obtain ⟨rfl, rfl⟩ := e
  rw [addr_add0, hc, ← hj2]
  simp
theorem ones8 (m : List UInt8) : ∀ v ∈ m.map bv, v.oneCell' = true := fun v hv => by
  obtain ⟨x, _, rfl⟩ := List.mem_map.1 hv
  rfl
theorem lo_append (w : World) (s : ByteArray) (c : Nat) (hc : s.size ≤ c) {B : Option Addr} {m : List UInt8} (bs : BS w B m) (k d : Nat) (hk : m.length = k) (hl : s.size + k ≤ 4294967296) :
    ∃ A' c' w', (Builtin.append_ #[22, 22] 22 #[.slice (some ⟨w.heap.size, 0, none⟩) s.size c, .slice B k d]).run Try.prog (loW w s c) = .ok (.slice A' (s.size + k) c') w' ∧
      BS w' A' (s.data.toList ++ m) ∧ Below w.heap.size w w' ∧ s.size + k ≤ c' := by
  subst hk
  have hu := Try.underlying22
  obtain ⟨i, hi, hz0, hz1, hz2⟩ := info_parts u8_info
  have hds : s.data.toList.length = s.size := by rw [Array.length_toList]; rfl
  have hsz := lo_size hc
  have hB := lo_below w s c
  have hself := lo_bs w s c
  have bs' : BS (loW w s c) B m := bs.below hB
  rcases Nat.eq_zero_or_pos m.length with h0 | h0
  · have hm : m = [] := List.eq_nil_of_length_eq_zero h0
    subst hm
    refine ⟨_, c, loW w s c, ?_, by simpa using hself, hB, by simpa using hc⟩
    have hs : ∀ x : Addr, (loadCells x 0).run Try.prog (loW w s c) = .ok #[] (loW w s c) := fun x => by simpa using run_loadCells_list (P := Try.prog) (loW w s c) x [] (by simp)
    rcases B with _ | b <;>
      simp [Builtin.append_, run_underlying hu, sizeOf, typeInfo, hi, Builtin.lenOf, Builtin.firstCells, hc, storeCells, hs]
  · obtain ⟨b, o, rfl, _, _⟩ := bs'.form h0
    have hnl : (m.map bv).length = m.length := by simp
    by_cases hr : s.size + m.length ≤ c
    · have hcell : ∀ j, j < (m.map bv).length → ((loW w s c).cell? ⟨w.heap.size, s.size + j, none⟩).isSome = true := fun j hj => by
        rw [lo_cell, Array.getElem?_eq_getElem (by rw [hsz]; omega)]
        rfl
      have hfr : ∀ j, j < (m.map bv).length → (loW w s c).frozen? ⟨w.heap.size, s.size + j, none⟩ = false := fun j hj => by
        rw [show (loW w s c).frozen? ⟨w.heap.size, s.size + j, none⟩ = _ from World.frozen?_alloc_mark w.drew _ _ _ _ _, hsz]
        simp
        omega
      have hrun := run_append_room_cells (P := Try.prog) (w := loW w s c) 22 22 5 i hu hi w.heap.size 0 s.size c ⟨b, o, none⟩ m.length d (m.map bv) (by rw [hz1]; simp) bs'.news (ones8 m) hr
        (fun j hj => by rw [hz1, Nat.zero_add, Nat.mul_one]; exact hcell j hj) (fun j hj => by rw [hz1, Nat.zero_add, Nat.mul_one]; exact hfr j hj)
      rw [hz1, Nat.zero_add, Nat.mul_one] at hrun
      refine ⟨_, _, _, hrun, fun j hj => ?_, Below.setCells8 (Nat.le_refl _) _ _ _ hB, hr⟩
      refine ⟨w.heap.size, 0, rfl, ?_⟩
      rw [Nat.zero_add]
      by_cases hj2 : j < s.size
      · rw [World.cell?_setCells_out _ _ _ _ _ (fun _ _ => .inl hj2)]
        obtain ⟨b', o', e, hc'⟩ := hself j (by omega)
        simp only [Option.some.injEq, Addr.mk.injEq, and_true] at e
        obtain ⟨rfl, rfl⟩ := e
        rw [Nat.zero_add] at hc'
        rw [hc', List.getElem_append_left (by omega)]
      · obtain ⟨q, rfl⟩ : ∃ q, j = s.size + q := ⟨j - s.size, by omega⟩
        have hq : q < m.length := by simp at hj; omega
        rw [World.cell?_setCells_in _ _ _ _ hcell q (by omega), List.getElem_append_right (by omega)]
        simp [hds]
    · obtain ⟨v', w', hrun, hown, hg⟩ := run_append_arg_grows (P := Try.prog) (w := loW w s c) 22 22 5 i (.int .u8 0) 1 1 hu hi hz0 hz1 hz2 rfl (by omega) ⟨w.heap.size, 0, none⟩ s.size c (s.data.toList.map bv) (by simp [hds]) hself.news
        ⟨b, o, none⟩ m.length d (m.map bv) (by simp) bs'.news (by omega) (by simp only [maxLen]; omega) (by omega)
      rw [← List.map_append] at hown
      obtain ⟨A', c', rfl⟩ : ∃ A' c', v' = .slice A' (s.size + m.length) c' := by
        rcases hown.2 with ⟨e, hn⟩ | ⟨g, cap, cur, e, _⟩
        · exact ⟨none, 0, by rw [e, hn]⟩
        · exact ⟨_, _, e⟩
      have own : OwnB w' (loW w s c).heap.size A' (s.size + m.length) c' (s.data.toList ++ m) := ⟨by simp [hds], hown⟩
      exact ⟨A', c', w', hrun, own.bs, hB.grown hg hB.size (fun k hk => by cases hk), own.le.1⟩
/-- The two with the sizes under names. -/
theorem lo_convN {P : Program} (w : World) (src dst : TypeId) (s : ByteArray) (g n : Nat) (hg : w.heap.size = g) (hn : s.size = n) (hs : P.underlying src = some .string) (hd : P.underlying dst = some (.slice 5)) (he : P.underlying 5 = some (.int .u8)) :
    ∃ c, n ≤ c ∧ (convert src dst (.string s)).run P w = .ok (.slice (some ⟨g, 0, none⟩) n c) (loW w s c) := by
  subst hg hn
  exact lo_conv w src dst s hs hd he
theorem lo_appendN (w : World) (s : ByteArray) (g n c : Nat) (l : List UInt8) (hg : w.heap.size = g) (hn : s.size = n) (hls : s.data.toList = l) (hc : n ≤ c) {B : Option Addr} {m : List UInt8} (bs : BS w B m) (k d : Nat) (hk : m.length = k) (hl : n + k ≤ 4294967296) :
    ∃ A' c' w', (Builtin.append_ #[22, 22] 22 #[.slice (some ⟨g, 0, none⟩) n c, .slice B k d]).run Try.prog (loW w s c) = .ok (.slice A' (n + k) c') w' ∧
      BS w' A' (l ++ m) ∧ Below g w w' ∧ n + k ≤ c' := by
  subst hg hn hls
  exact lo_append w s c hc bs k d hk hl
end Go.Proofs.Yteinmabdkkddiaa
