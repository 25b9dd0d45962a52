/- One round of the law's loop: a piece, and its two appends. Conditions: words, names and texts as tested. -/
import Derived.Test.YtnepjlfkbmindaaDoorIRp
import Derived.Test.YtnepjlfkbmindaaDoorRow
import Derived.Test.YtnepjlfkbmindaaDoorSqS
namespace Go.Proofs.YtnepjlfkbmindaaDoor
open Go.RowKit
set_option linter.unusedVariables false
set_option linter.unusedSimpArgs false

theorem srcs_append (a b : List It) : srcs (a ++ b) = srcs a ++ srcs b := by simp [srcs]
theorem dsts_append (a b : List It) : dsts (a ++ b) = dsts a ++ dsts b := by simp [dsts]
/-- What the rounds keep. -/
structure RpRel (nt : NT) (W wr : World) (A : Option Addr) (n c : Nat) (D : Option Addr) (m d : Nat) : Prop where
  bel : Below W.heap.size W wr
  ex : ∃ its : List It, OwnB wr W.heap.size A n c (srcs its) ∧ OwnB wr W.heap.size D m d (dsts its) ∧ ∀ it ∈ its, ItOk nt it
  ne : ∀ k, blk A = some k → blk D ≠ some k
theorem RpRel.start (nt : NT) (W : World) : RpRel nt W ((W.alloc (.cells #[] 5)).alloc (.cells #[] 5)) (some ⟨W.heap.size, 0, none⟩) 0 0 (some ⟨W.heap.size + 1, 0, none⟩) 0 0 := by
  refine ⟨((Below.refl _ _).alloc (Nat.le_refl _) _).alloc (by simp) _, ⟨[], (OwnB.empty W (Nat.le_refl _) rfl).alloc _, OwnB.empty (W.alloc (.cells #[] 5)) (by simp) (by simp), fun it hit => by simp at hit⟩, fun k hk e => ?_⟩
  have h1 : W.heap.size = k := Option.some.inj hk
  have h2 : W.heap.size + 1 = k := Option.some.inj e
  omega
/-- The two appends of a round. -/
theorem RpRel.next {nt : NT} {W wr w1 : World} {A D A1 A2 : Option Addr} {n c m d n1 c1 n2 c2 : Nat} (h : RpRel nt W wr A n c D m d) (hB : Below wr.heap.size wr w1) (its' : List It)
    (h1 : BS w1 A1 (srcs its')) (hn1 : (srcs its').length = n1) (h2 : BS w1 A2 (dsts its')) (hn2 : (dsts its').length = n2) (hok : ∀ it ∈ its', ItOk nt it) (hon : OldNew W wr A2 (dsts its')) (hb1 : n + n1 ≤ 4294967296) (hb2 : m + n2 ≤ 4294967296) :
    ∃ A' c' w2 D' d' w3, (Builtin.append_ #[26, 26] 26 #[.slice A n c, .slice A1 n1 c1]).run Tryd.prog w1 = .ok (.slice A' (n + n1) c') w2 ∧
      (Builtin.append_ #[26, 26] 26 #[.slice D m d, .slice A2 n2 c2]).run Tryd.prog w2 = .ok (.slice D' (m + n2) d') w3 ∧ RpRel nt W w3 A' (n + n1) c' D' (m + n2) d' := by
  obtain ⟨its, ot, od, ok⟩ := h.ex
  have ot1 := ot.below hB
  have od1 := od.below hB
  have hs1 : W.heap.size ≤ w1.heap.size := Nat.le_trans h.bel.size hB.size
  obtain ⟨A', c', w2, run1, ot2, g2, at2⟩ := run_append8 (P := Tryd.prog) 26 26 Tryd.underlying26 u8_info ot1 h1 n1 c1 hn1 hb1 hs1
  have od2 := od1.kept g2 (fun k hk e => h.ne k e hk)
  have hb1W : Below W.heap.size W w1 := h.bel.trans (hB.mono h.bel.size)
  have hb2W : Below W.heap.size W w2 := ot1.bel hb1W g2 hs1
  have hs2 : w1.heap.size ≤ w2.heap.size := g2.size
  have s2 : BS w2 A2 (dsts its') := by
    rcases hon with hon | hon
    · exact hon.below hb2W
    · refine h2.grown g2 (fun k hk e => ?_)
      have := hon k hk
      have := ot.blk_lt k e
      omega
  obtain ⟨D', d', w3, run2, od3, g3, at3⟩ := run_append8 (P := Tryd.prog) 26 26 Tryd.underlying26 u8_info od2 s2 n2 c2 hn2 hb2 (Nat.le_trans hs1 hs2)
  have ne2 : ∀ k, blk A' = some k → blk D ≠ some k := fun k hk e => by
    rcases at2 with at2 | at2
    · exact h.ne k (at2 ▸ hk) e
    · rw [at2] at hk
      have hk : w1.heap.size = k := Option.some.inj hk
      have := od.blk_lt k e
      have := hB.size
      omega
  have ot3 := ot2.kept g3 (fun k hk e => ne2 k hk e)
  refine ⟨A', c', w2, D', d', w3, run1, run2, ⟨od2.bel hb2W g3 (Nat.le_trans hs1 hs2), ⟨its ++ its', by rw [srcs_append]; exact ot3, by rw [dsts_append]; exact od3, fun it hit => ?_⟩, fun k hk e => ?_⟩⟩
  · rcases List.mem_append.1 hit with hit | hit
    · exact ok it hit
    · exact hok it hit
  · rcases at3 with at3 | at3
    · exact ne2 k hk (at3 ▸ e)
    · rw [at3] at e
      have e : w2.heap.size = k := Option.some.inj e
      have := ot2.blk_lt k hk
      omega
/-- What a round's piece gives: no, or the two appends' runs. -/
def PcNext (nt : NT) (W : World) (A : Option Addr) (n c : Nat) (D : Option Addr) (m d : Nat) (e : Ending) (w1 : World) : Prop := ∃ (A1 A2 : Option Addr) (n1 c1 n2 c2 : Nat),
  (e = .returned (.tuple #[.slice A1 n1 c1, .slice A2 n2 c2, .bool false]) ∧ Below W.heap.size W w1) ∨
  (e = .returned (.tuple #[.slice A1 n1 c1, .slice A2 n2 c2, .bool true]) ∧ n1 ≤ 100 ∧ n2 ≤ 100 ∧ ∃ A' c' w2 D' d' w3, Hid ((Builtin.append_ #[26, 26] 26 #[.slice A n c, .slice A1 n1 c1]).run Tryd.prog w1 = .ok (.slice A' (n + n1) c') w2) ∧
      Hid ((Builtin.append_ #[26, 26] 26 #[.slice D m d, .slice A2 n2 c2]).run Tryd.prog w2 = .ok (.slice D' (m + n2) d') w3) ∧ Hid (RpRel nt W w3 A' (n + n1) c' D' (m + n2) d'))
theorem piece_next (k : Int) (A1 A2 A3 A D : Option Addr) (c1 c2 c3 nw nn n c m d : Nat) (ws ns ts : List (List UInt8)) (W w : World) (hk : k ≤ 9223372036854775807) (hw : 0 < nw) (h1 : LL W A1 ws) (h2 : LL W A2 ns) (h3 : LL W A3 ts) (hwn : ws.length = nw) (hn : ns.length = nn) (ht : ts.length = nn)
    (hl : ∀ (i : Nat) (x : List UInt8), ws[i]? = some x → x.length ≤ 2147483647) (he : EntsOk ns ts) (hr : RpRel (ns.zip ts) W w A n c D m d) (hb1 : n ≤ 20000) (hb2 : m ≤ 20000) :
    Calls Tryd.prog 6 #[.int .i64 k, .slice A1 nw c1, .slice A2 nn c2, .slice A3 nn c3] w (PcNext (ns.zip ts) W A n c D m d) := by
  refine (piece_any k A1 A2 A3 c1 c2 c3 nw nn ws ns ts W w hk hw h1 h2 h3 hr.bel hwn hn ht hl he).mono ?_
  rintro e w1 ⟨B1, B2, q1, e1, q2, e2, b, rfl, hB, hp⟩
  refine ⟨B1, B2, q1, e1, q2, e2, ?_⟩
  cases b
  · exact .inl ⟨rfl, hr.bel.trans (hB.mono hr.bel.size)⟩
  · obtain ⟨its, g1, g2, g3, g4, g5, g6, g7, g8⟩ := hp rfl
    obtain ⟨A', c', w2, D', d', w3, r1, r2, hN⟩ := hr.next (c1 := e1) (c2 := e2) hB its g1 g2 g4 g5 g7 g8 (by omega) (by omega)
    exact .inr ⟨rfl, g3, g6, A', c', w2, D', d', w3, hide r1, hide r2, hide hN⟩
theorem sqS_n (A : Option Addr) (l : List UInt8) (n c : Nat) (w : World) (hs : BS w A l) (hn : l.length = n) (h1 : n ≤ 2147483647) :
    Calls Tryd.prog 7 #[.slice A n c] w fun e w' => ∃ A' n' c', e = .returned (.slice A' n' c') ∧ BS w' A' (sq l) ∧ (sq l).length = n' ∧ Below w.heap.size w w' := by
  subst hn
  refine (sqS_any A l c w hs h1).mono ?_
  rintro e w1 ⟨A', c', rfl, hb, hB⟩
  exact ⟨A', _, c', rfl, hb, rfl, hB⟩
theorem todo_all {nt : NT} {its : List It} (h : ∀ it ∈ its, ItOk nt it) : Todo nt (srcs its) 0 its (dsts its) := ⟨by simp, by simp, Nat.zero_le _, h⟩
end Go.Proofs.YtnepjlfkbmindaaDoor
