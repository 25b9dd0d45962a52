/- Rows of the call's own, of elements of any number of cells: an append of a row just made; a slice and a store as steps of a region that draws; a list of numbers in memory. Conditions: lengths below 2^32. -/
import Derived.Test.YtnepjlfkbmindaaDoorCat
namespace Go.Proofs.YtnepjlfkbmindaaDoor
open Go.RowKit Go.ChangeShapes Go.WideShapes Go.ChangeAt
set_option linter.unusedVariables false

/-- An append of m elements that lie at the head of a row, onto a row of the call's own. -/
theorem row_app {P : Program} {W : World} {base n c size bytes : Nat} {A : Option Addr} {xs news : List Value} {z : Value} (T E : TypeId) (hu : P.underlying T = some (.slice E))
    (hinfo : (P.info? E).map (fun i => (i.zero, i.size, i.bytes)) = some (some z, size, bytes)) (hzs : z.cells.size = size) (hsz : 0 < size)
    (own : W.ownsRow base E size (.slice A n c) n xs) (hb : base ≤ W.heap.size) (g m : Nat) (hm : 0 < m) (hl : news.length = m * size) (hnews : ∀ j u, news[j]? = some u → W.cell? ⟨g, j, none⟩ = some u) (h1 : ∀ u ∈ news, u.oneCell' = true)
    (hn : n + m ≤ 4294967296) (hbytes : (n + m) * bytes ≤ 140737488355328) :
    ∃ A' c' w', (Builtin.append_ #[T, T] T #[.slice A n c, .slice (some ⟨g, 0, none⟩) m m]).run P W = .ok (.slice A' (n + m) c') w' ∧
      w'.ownsRow base E size (.slice A' (n + m) c') (n + m) (xs ++ news) ∧ W.grownBy w' (blk A) ∧ (blk A' = blk A ∨ blk A' = some W.heap.size) := by
  obtain ⟨i, hi, hz0, hz1, hz2⟩ := info_parts hinfo
  obtain ⟨v', w', hrun, hown, hg, _, hat⟩ := run_append_own_at (P := P) W base T T E i z size bytes hu hi hz0 hz1 hz2 hzs hsz (.slice A n c) n xs own ⟨g, 0, none⟩ m m news hl
    (fun j v hj => by
      have e : (⟨g, 0, none⟩ : Addr).add j = ⟨g, j, none⟩ := by
        unfold Addr.add
        split
        · rename_i h0; subst h0; rfl
        · simp
      rw [e]
      exact hnews j v hj)
    h1 (by simp [maxLen]; omega) hbytes hb
  have form : ∃ A' c', v' = .slice A' (n + m) c' := by
    rcases hown.2 with ⟨e, hn⟩ | ⟨g, cap, cur, e, _⟩
    · omega
    · exact ⟨_, _, e⟩
  obtain ⟨A', c', rfl⟩ := form
  rw [ownBlock_blk] at hg
  rw [ownBlock_blk, ownBlock_blk] at hat
  exact ⟨A', c', w', hrun, hown, hg, hat⟩
theorem row_lt {w : World} {base n c size : Nat} {E : TypeId} {A : Option Addr} {xs : List Value} (h : w.ownsRow base E size (.slice A n c) n xs) : ∀ k, blk A = some k → base ≤ k ∧ k < w.heap.size := fun k hk => h.lt k (by rw [ownBlock_blk]; exact hk)
theorem row_kept {w w' : World} {base n c size : Nat} {E : TypeId} {A : Option Addr} {xs : List Value} {row : Option Nat} (h : w.ownsRow base E size (.slice A n c) n xs) (hg : w.grownBy w' row) (hne : ∀ k, blk A = some k → row ≠ some k) : w'.ownsRow base E size (.slice A n c) n xs := by
  refine h.kept hg ?_
  rw [ownBlock_blk]
  cases hA : blk A with
  | none => exact .inl rfl
  | some k => exact .inr (fun e => hne k hA e.symm)
/-- A slice expression whose run is known, as one step of a region that draws its order. -/
theorem step_slice_run {P : Program} {ops : Array Oper} {o : Oper} {a : Act} {w : World} {K : Act → World → Prop} {Q : Exit → Act → World → Prop} {E : Prop} {vx v' : Value} {vl vh : Option Value} {T : TypeId}
    (hrun : (Instr.sliceAt T vx vl vh none).run P w = .ok v' w) (x : Operand) (lo hi : Option Operand) (hw : Region.wanted o (yielded ops a.tmps) = true)
    (ho : o.op = .slice T x lo hi none) (hx : a.eval x = vx) (hl : lo.map a.eval = vl) (hh : hi.map a.eval = vh)
    (hK : K (a.put o.dst v') w) : if Region.wanted o (yielded ops a.tmps) = true then Oper.wp P o a w K Q else E := by
  rw [if_pos hw]
  subst hx hl hh
  unfold Oper.wp
  simp [execOp, ho, hrun, Result.andThen]
  exact hK
/-- The address of 'b[lo:]', as the walk spells it. -/
abbrev loA (A : Option Addr) (c lo : Nat) : Option Addr := if c = lo then A else Option.map (fun x => x.add lo) A
theorem loA_blk (A : Option Addr) (c lo : Nat) : blk (loA A c lo) = blk A := by
  unfold loA blk
  split
  · rfl
  · cases A with
    | none => rfl
    | some a =>
      simp only [Option.map_some, Addr.add]
      split <;> rfl
theorem lo_bs {w : World} {A : Option Addr} {l : List UInt8} (h : BS w A l) (c lo : Nat) (hc : l.length ≤ c) : BS w (loA A c lo) (l.drop lo) := by
  unfold loA
  by_cases e : c = lo
  · rw [if_pos e, List.drop_of_length_le (by omega)]
    exact BS.nil _ _
  · rw [if_neg e]
    rcases Nat.eq_zero_or_pos l.length with h0 | h0
    · obtain rfl : l = [] := List.eq_nil_of_length_eq_zero h0
      simpa using BS.nil _ _
    · obtain ⟨b, o, rfl, _, _⟩ := h.form h0
      have ea : Option.map (fun x : Addr => x.add lo) (some (⟨b, o, none⟩ : Addr)) = some ⟨b, o + lo, none⟩ := by
        simp only [Option.map_some, Addr.add]
        split
        · rename_i hl0; subst hl0; rfl
        · rfl
      rw [ea]
      exact h.cut rfl lo
/-- The slice reads as numbers. -/
def IntsAt (w : World) (A : Option Addr) (zs : List Int) : Prop := ∀ i (h : i < zs.length), ∃ b o, A = some ⟨b, o, none⟩ ∧ w.cell? ⟨b, o + i, none⟩ = some (.int .i64 zs[i])
theorem IntsAt.below {w w' : World} {A : Option Addr} {zs : List Int} (h : IntsAt w A zs) (hb : Below w.heap.size w w') : IntsAt w' A zs := fun i hi => by
  obtain ⟨b, o, e, h1⟩ := h i hi
  exact ⟨b, o, e, (hb.cell (block_lt_of_cell h1)).trans h1⟩
/-- What came in as a slice of ints reads as numbers. -/
theorem ints_in {H : Type} {enc : TypeId × Value → H} {P : Program} {w : World} {base : Nat} {spare : Nat → Bool} {held : Bool} {t e fuel : Nat} {A : Option Addr} {n c : Nat} {x : DataW H × List MemPlace}
    (ht : P.underlying t = some (.slice e)) (he : P.underlying e = some (.int .i64)) (hc : P.cellsOf e = 1)
    (h : DataW.trod enc P w base spare held fuel t [.slice A n c] = some x) : n ≤ c ∧ c ≤ maxLen ∧ ∃ l : List Int, l.length = n ∧ IntsAt w A l ∧ ∀ i (h : i < l.length), -9223372036854775808 ≤ l[i] ∧ l[i] ≤ 9223372036854775807 := by
  rcases open_ints ht he hc h with ⟨hcs, _⟩ | ⟨a, len, cap, zs, hcs, _, hl, hm, hz, _, hcell, hwz⟩
  · simp only [List.cons.injEq, Value.slice.injEq, and_true] at hcs
    obtain ⟨rfl, rfl, rfl⟩ := hcs
    exact ⟨Nat.le_refl _, by simp [maxLen], [], rfl, fun i h => absurd h (by simp), fun i h => absurd h (by simp)⟩
  · simp only [List.cons.injEq, Value.slice.injEq, and_true] at hcs
    obtain ⟨rfl, rfl, rfl⟩ := hcs
    have hlz : n ≤ zs.length := by split at hz <;> omega
    refine ⟨hl, hm, zs.take n, by simp; omega, fun i hi => ?_, fun i hi => ?_⟩
    · have hi' : i < n := by simp at hi; omega
      have hi2 : i < zs.length := by omega
      have hci := hcell i hi2
      obtain ⟨b, o, spot⟩ := a
      have hspot : spot = none := by
        have := World.cell?_spot (hcell 0 (by omega))
        simpa [Addr.add] using this
      subst hspot
      refine ⟨b, o, rfl, ?_⟩
      have e1 : (⟨b, o, none⟩ : Addr).add i = ⟨b, o + i, none⟩ := by
        unfold Addr.add
        split
        · rename_i h0; subst h0; rfl
        · rfl
      rw [e1] at hci
      rw [hci, List.getElem_take, List.getD_eq_getElem?_getD, List.getElem?_eq_getElem hi2]
      rfl
    · have hi2 : i < zs.length := by simp at hi; omega
      rw [List.getElem_take]
      have := hwz zs[i] (List.getElem_mem hi2)
      exact bounds_i64 this
end Go.Proofs.YtnepjlfkbmindaaDoor
