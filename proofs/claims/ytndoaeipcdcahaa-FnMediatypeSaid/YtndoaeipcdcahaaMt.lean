/- What the law of media types needs: the text's parts, the thin package's reading at such a text, one step of an append, and what came in as a list of lists. Conditions: words of not more than 30 bytes, not more than ten names. -/
import Derived.Test.YtndoaeipcdcahaaIMed
import Derived.Test.YtndoaeipcdcahaaINil
import Derived.Test.YtndoaeipcdcahaaPairs
import Derived.Test.YtndoaeipcdcahaaCat
import Derived.Deep.Slices
namespace Go.Proofs.Ytndoaeipcdcahaa
open Go.RowKit
set_option linter.unusedVariables false
set_option linter.unusedSimpArgs false

theorem clean_word {x : List UInt8} (h : IsW x) : Clean x := fun c hc => by
  obtain ⟨j, hj⟩ := List.getElem?_of_mem hc
  have hw := h.2.2 j c hj
  unfold okW at hw
  refine ⟨?_, ?_, ?_⟩ <;> (rintro rfl; simp at hw)
theorem clean_media {x y : List UInt8} (hx : IsW x) (hy : IsW y) : Clean (x ++ [47] ++ y) := fun c hc => by
  rcases List.mem_append.1 hc with hc | hc
  · rcases List.mem_append.1 hc with hc | hc
    · exact clean_word hx c hc
    · simp at hc
      subst hc
      decide
  · exact clean_word hy c hc
theorem tail_len (bl : Nat) : ∀ (ps : List Ent), (∀ p ∈ ps, p.1.length ≤ 30 ∧ p.2.length ≤ 30) → (tailOf bl ps).length ≤ (62 + bl) * ps.length
  | [], _ => by simp [tailOf]
  | p :: ps, h => by
    have ih := tail_len bl ps (fun q hq => h q (by simp [hq]))
    have h1 := h p (by simp)
    have e : (tailOf bl (p :: ps)).length = (seg bl p).length + (tailOf bl ps).length := by simp [tailOf]
    rw [e, seg_len, List.length_cons, Nat.mul_succ]
    omega
theorem tail_succ {bl i : Nat} {ps : List Ent} {p : Ent} (h : ps[i]? = some p) (t : List UInt8) : (((t ++ tailOf bl (ps.take i)) ++ [59]) ++ List.replicate bl 32) ++ p.1 ++ [61] ++ p.2 = t ++ tailOf bl (ps.take (i + 1)) := by
  obtain ⟨hi, e⟩ := List.getElem?_eq_some_iff.1 h
  rw [List.take_succ_eq_append_getElem hi, e]
  simp [tailOf, seg]
theorem zip_at {ns vs : List (List UInt8)} {i : Nat} {x y : List UInt8} (hx : ns[i]? = some x) (hy : vs[i]? = some y) : (ns.zip vs)[i]? = some (x, y) := by
  rw [List.getElem?_zip_eq_some]
  exact ⟨hx, hy⟩
theorem zip_fst {ns vs : List (List UInt8)} (h : vs.length = ns.length) : (ns.zip vs).map (·.1) = ns := by
  rw [show (fun p : List UInt8 × List UInt8 => p.1) = Prod.fst from rfl, List.map_fst_zip (by omega)]
theorem split_len {done todo ps : List Ent} {p : Ent} (h : done ++ p :: todo = ps) (h10 : ps.length ≤ 10) : done.length ≤ 1000 := by
  subst h
  simp at h10
  omega
theorem split_nodup {done todo ps : List Ent} {p : Ent} (h : done ++ p :: todo = ps) (hnd : (ps.map (·.1)).Nodup) : p.1 ∉ done.map (·.1) := by
  subst h
  rw [List.map_append, List.map_cons] at hnd
  intro hm
  exact (List.nodup_append.1 hnd).2.2 _ hm _ (by simp) rfl
/-- The thin package's reading of such a text. -/
theorem mt_any (b o n c m bl : Nat) (l media : List UInt8) (ps : List Ent) (w : World) (bs : BS w (some ⟨b, o, none⟩) l) (hn : l.length = n) (hc : n ≤ c) (h5 : n ≤ 5000) (hm : media.length = m) (h3 : 3 ≤ m) (hcl : Clean media)
    (hl : l = media ++ tailOf bl ps) (hp : ∀ p ∈ ps, IsW p.1 ∧ IsW p.2) (hnd : (ps.map (·.1)).Nodup) (h10 : ps.length ≤ 10) :
    Calls Try.prog 7 #[.slice (some ⟨b, o, none⟩) n c] w (IMedRet b o m c ps w) := by
  cases ps with
  | nil =>
    have e : l = media := by rw [hl]; simp [tailOf]
    subst e
    obtain rfl : n = m := hn.symm.trans hm
    exact imed_none b o n c w (med_none b o n c l w bs hn hc h5 h3 hcl)
  | cons p0 ps =>
    refine imed_some b o n c m bl l media p0 ps w (med_some b o n c m bl l media p0 ps w bs hn hc h5 hm h3 hcl ⟨[], tailOf bl (p0 :: ps), by rw [hl]; rfl, rfl⟩ ?_ ⟨media, [], by rw [hl, List.append_nil], hm⟩ (fun p hq => ?_) (fun done {p} {todo} h => split_len h h10) (fun done p todo h => split_nodup h hnd)) h10 hnd (fun p hq => ?_)
    · rw [← hn, hl, ← hm]
      simp
    · obtain ⟨h1, h2⟩ := hp p hq
      exact ⟨clean_word h1, clean_word h2, h1.1, h2.1⟩
    · have := (hp p hq).1.2.1
      omega
/-- No pairs. -/
theorem pairs_zero (A B C D : Option Addr) (c0 c1 c2 c3 : Nat) (w : World) :
    Calls Try.prog 9 #[.slice A 0 c0, .slice B 0 c1, .slice C 0 c2, .slice D 0 c3] w fun e w' => e = .returned (.bool true) ∧ ∃ m, w' = w.drewN m := by
  go_enter Try.func9, Try.ntmps9
  go_wp2
  go_loopg [28] 0 (fun gi iv wr => iv = .int .i64 0 ∧ wr = w)
  case atStart => exact ⟨rfl, rfl⟩
  case round =>
    obtain ⟨rfl, rfl⟩ := hrel
    go_wp2
    go_ret
    exact ⟨rfl, 0, rfl⟩
/-- One append as a step of a region that draws its order. -/
theorem step_app {ops : Array Oper} {o : Oper} {a : Act} {w w0 : World} {K : Act → World → Prop} {Q : Exit → Act → World → Prop} {E : Prop} {n c m d : Nat} {A B : Option Addr} {l lm : List UInt8}
    (s x : Operand) (hw : Region.wanted o (yielded ops a.tmps) = true) (hty : o.type = 22)
    (ho : o.op = .call { callee := .builtin .append, args := #[s, x], argTypes := #[22, 22] }) (hs : a.eval s = .slice A n c) (hx : a.eval x = .slice B m d)
    (own : OwnB w w0.heap.size A n c l) (hb : Below w0.heap.size w0 w) (bs : BS w B lm) (hm : lm.length = m) (hN : n + m ≤ 4294967296)
    (hK : ∀ A' c' w', OwnB w' w0.heap.size A' (n + m) c' (l ++ lm) → w.grownBy w' (blk A) → Below w0.heap.size w0 w' → K (a.put o.dst (.slice A' (n + m) c')) w') :
    if Region.wanted o (yielded ops a.tmps) = true then Oper.wp Try.prog o a w K Q else E := by
  obtain ⟨A', c', w', hrun, own', hg, _⟩ := run_append8 (P := Try.prog) 22 22 Try.underlying22 u8_info own bs m d hm hN hb.size
  exact step_append_runG hrun s x hw hty ho hs hx (hK A' c' w' own' hg (own.bel hb hg hb.size))
theorem below_drew {B : Nat} {a w : World} (h : Below B a w) : Below B a w.drew := below_drewN h 1
theorem below_alloc {a w : World} (h : Below a.heap.size a w) (o : Obj) : Below a.heap.size a (w.alloc o) := h.alloc h.size o
/-- From a list of facts, a list. -/
theorem list_of_lt {α : Type} {P : Nat → α → Prop} : ∀ {n : Nat}, (∀ i, i < n → ∃ z, P i z) → ∃ l : List α, l.length = n ∧ ∀ i (h : i < l.length), P i l[i]
  | 0, _ => ⟨[], rfl, fun i h => absurd h (by simp)⟩
  | n + 1, h => by
    obtain ⟨l, hl, hp⟩ := list_of_lt (n := n) (fun i hi => h i (by omega))
    obtain ⟨z, hz⟩ := h n (by omega)
    refine ⟨l ++ [z], by simp [hl], fun i hi => ?_⟩
    rcases Nat.lt_or_ge i l.length with h1 | h1
    · rw [List.getElem_append_left h1]
      exact hp i h1
    · have : i = n := by simp at hi; omega
      subst this
      rw [List.getElem_append_right (by omega)]
      simpa [hl] using hz
/-- What came in as a list of lists. -/
theorem rows_in {H : Type} {enc : TypeId × Value → H} {P : Program} {w : World} {base : Nat} {spare : Nat → Bool} {held : Bool} {t e q fuel : Nat} {A : Option Addr} {n c : Nat} {x : DataW H × List MemPlace}
    (ht : P.underlying t = some (.slice e)) (he : P.underlying e = some (.slice q)) (hq : P.underlying q = some (.int .u8)) (ce : P.cellsOf e = 1) (cq : P.cellsOf q = 1)
    (h : DataW.trod enc P w base spare held fuel t [.slice A n c] = some x) : n ≤ c ∧ c ≤ maxLen ∧ ∃ l : List (List UInt8), l.length = n ∧ LL w A l ∧ ∀ (i : Nat) (y : List UInt8), l[i]? = some y → y.length ≤ maxLen := by
  rcases Deep.open_slice1 ht ce h with ⟨hcs, _⟩ | ⟨a, len, cap, m, n', V, D, Pl, hcs, _, hl, hm, hmm, _, hi⟩
  · simp only [List.cons.injEq, Value.slice.injEq, and_true] at hcs
    obtain ⟨rfl, rfl, rfl⟩ := hcs
    exact ⟨Nat.le_refl _, by simp [maxLen], [], rfl, fun i y h => by simp at h, fun i y h => by simp at h⟩
  · simp only [List.cons.injEq, Value.slice.injEq, and_true] at hcs
    obtain ⟨rfl, rfl, rfl⟩ := hcs
    have hnm : n ≤ m := by rw [hmm]; split <;> omega
    have each : ∀ i, i < n → ∃ y : List UInt8, ∃ b o Ai ci, some a = some (⟨b, o, none⟩ : Addr) ∧ w.cell? ⟨b, o + i, none⟩ = some (.slice Ai y.length ci) ∧ y.length ≤ ci ∧ ci ≤ maxLen ∧ BS w Ai y := fun i hin => by
      obtain ⟨hc, ht⟩ := hi i (by omega)
      have hform : ∃ Ai ni ci, V i = .slice Ai ni ci := by
        rcases DataW.trod_slice he ht with ⟨h0, _⟩ | ⟨a', len', cap', _, _, _, _, h0, _⟩
        · exact ⟨_, _, _, by simpa using h0⟩
        · exact ⟨_, _, _, by simpa using h0⟩
      obtain ⟨Ai, ni, ci, hV⟩ := hform
      rw [hV] at hc ht
      obtain ⟨h1, h2, y, hy, hbs⟩ := bytes_in he hq cq ht
      subst hy
      have hsp : a.spot = none := by
        have h00 := (hi 0 (by omega)).1
        have := World.cell?_spot h00
        simpa [Addr.add] using this
      obtain ⟨b, o, spot⟩ := a
      have hsp : spot = none := hsp
      subst hsp
      refine ⟨y, b, o, Ai, ci, rfl, ?_, h1, h2, hbs⟩
      have e1 : (⟨b, o, none⟩ : Addr).add i = ⟨b, o + i, none⟩ := by
        unfold Addr.add
        split
        · rename_i h0; subst h0; rfl
        · rfl
      rw [← e1]
      exact hc
    obtain ⟨l, hll, hlp⟩ := list_of_lt each
    refine ⟨hl, hm, l, hll, fun i y hy => ?_, fun i y hy => ?_⟩
    · obtain ⟨hi1, hi2⟩ := List.getElem?_eq_some_iff.1 hy
      obtain ⟨b, o, Ai, ci, h1, h2, h3, h4, h5⟩ := hlp i hi1
      rw [hi2] at h2 h3 h5
      exact ⟨b, o, Ai, ci, h1, h2, h3, h5⟩
    · obtain ⟨hi1, hi2⟩ := List.getElem?_eq_some_iff.1 hy
      obtain ⟨b, o, Ai, ci, h1, h2, h3, h4, h5⟩ := hlp i hi1
      rw [hi2] at h3
      exact Nat.le_trans h3 h4
end Go.Proofs.Ytndoaeipcdcahaa
