/- The package's writing of a text as the value of an attribute of HTML: words; the ways without entities. Conditions: the buffer is empty, the text lies elsewhere and has at most 500 bytes, the table's cells. (printed by gen_esch.py) -/
import Derived.Test.YtfelfbgppkiimaaDoorPut
import Derived.Test.YtfelfbgppkiimaaDoorTab
import Derived.Test.YtfelfbgppkiimaaDoorBufC
namespace Go.Proofs.YtfelfbgppkiimaaDoor
open Go.RowKit
set_option linter.unusedVariables false
set_option linter.unusedSimpArgs false

/-- What cannot stand in a value without quotation marks. -/
def isSp (c : UInt8) : Bool := isBl c || c == 34 || c == 39 || c == 60 || c == 61 || c == 62 || c == 96
def noSp (c : UInt8) : Bool := !isSp c
abbrev CtTab (w : World) : Prop := TabOf 0 isSp w
theorem noSp_quotes {d : UInt8} (h : isSp d = false) : d ≠ 34 ∧ d ≠ 39 := by
  constructor
  · rintro rfl; cases h
  · rintro rfl; cases h
theorem all_next {l : List UInt8} {k : Nat} {d : UInt8} {u : Bool} (hd : l[k]? = some d) (hu : (l.take k).all noSp = u) : (l.take (k + 1)).all noSp = (u && !isSp d) := by
  rw [take_snoc8 hd, List.all_append, hu]
  simp [noSp]
theorem set_size (w : World) (p : Addr) (v : Value) : (w.setCell p v).heap.size = w.heap.size := by simp [World.setCell]
theorem bs_apart {w w' : World} {g0 G : Nat} {l : List UInt8} (h : BS w (some ⟨g0, 0, none⟩) l) (hg : w.grownBy w' (some G)) (hne : g0 < G) : BS w' (some ⟨g0, 0, none⟩) l :=
  h.grown hg (fun k hk e => by
    have hk' : g0 = k := by simpa [blk] using hk
    injection e with e
    omega)

theorem sq_any (w : World) :
    Calls Tryd.prog 18 #[] w fun e w' => e = .returned (.slice (some ⟨w.heap.size, 0, none⟩) 5 5) ∧ w.alloc (.cells #[.int .u8 38, .int .u8 35, .int .u8 51, .int .u8 57, .int .u8 59] 5 (5, 6)) = w' := by
  have kc := fun n c C => run_bytes_lit (P := Tryd.prog) 22 5 Tryd.underlying22 Tryd.underlying5 w w.heap.size n c C rfl
  go_enter Tryd.func18, Tryd.ntmps18
  go_wp2
  go_ret
  exact ⟨rfl, rfl⟩
theorem dq_any (w : World) :
    Calls Tryd.prog 17 #[] w fun e w' => e = .returned (.slice (some ⟨w.heap.size, 0, none⟩) 5 5) ∧ w.alloc (.cells #[.int .u8 38, .int .u8 35, .int .u8 51, .int .u8 52, .int .u8 59] 5 (5, 6)) = w' := by
  have kc := fun n c C => run_bytes_lit (P := Tryd.prog) 22 5 Tryd.underlying22 Tryd.underlying5 w w.heap.size n c C rfl
  go_enter Tryd.func17, Tryd.ntmps17
  go_wp2
  go_ret
  exact ⟨rfl, rfl⟩
/-- The text as the value of an attribute. -/
def attr (q : UInt8) (l : List UInt8) : List UInt8 := [q] ++ esc (fQ q) l ++ [q]
theorem attr_len (q : UInt8) (l : List UInt8) : (attr q l).length = l.length + 4 * cnt q l + 2 := by
  have := extQ_len q l
  simp [attr]
  omega
/-- What is returned. -/
def ATRet (gp : Nat) (q : UInt8) (l : List UInt8) (w : World) (e : Ending) (w' : World) : Prop := ∃ A' c', e = .returned (.slice A' (attr q l).length c') ∧ BS w' A' (attr q l) ∧ (attr q l).length ≤ c' ∧ w.grownBy w' (some gp)
/-- The world behind the making of the buffer, the first quotation mark written. -/
def madeA (w : World) (gp n gt : Nat) (ent : Array Value) (q : Int) : World := ((w.setCell ⟨gp, 0, none⟩ (.slice (some ⟨gt, 0, none⟩) 0 n)).alloc (.cells ent 5 (5, 6))).alloc (.cells ((madeCells #[.int .u8 0] n).setIfInBounds 0 (.int .u8 q)) 5)
theorem made_list (n : Nat) : madeCells #[.int .u8 0] n = ((List.replicate n (0 : UInt8)).map bv).toArray := by
  apply Array.ext
  · simp [madeCells]
  · intro i h1 h2
    simp [madeCells, bv, Nat.mod_one]
theorem made_first {n : Nat} (h : 0 < n) : (madeCells #[.int .u8 0] n)[0]? = some (.int .u8 0) := by
  rw [made_list]
  simp [bv, h]
theorem madeA_blk {w : World} {gp n gt : Nat} {ent : Array Value} {q : UInt8} (h : w.heap.size + 1 = gt) : Blk8 (madeA w gp n gt ent (q.toNat : Int)) gt ((List.replicate n 0).set 0 q) := by
  subst h
  have := heap_alloc_new ((w.setCell ⟨gp, 0, none⟩ (.slice (some ⟨w.heap.size + 1, 0, none⟩) 0 n)).alloc (.cells ent 5 (5, 6))) (.cells ((madeCells #[.int .u8 0] n).setIfInBounds 0 (.int .u8 (q.toNat : Int))) 5)
  rw [show ((w.setCell ⟨gp, 0, none⟩ (.slice (some ⟨w.heap.size + 1, 0, none⟩) 0 n)).alloc (.cells ent 5 (5, 6))).heap.size = w.heap.size + 1 by simp [World.setCell]] at this
  unfold Blk8 madeA
  rw [this, made_list, List.map_set, List.setIfInBounds_toArray]
theorem madeA_bs {w : World} {gp n gt g0 : Nat} {ent : Array Value} {q : Int} {l : List UInt8} (h : BS w (some ⟨g0, 0, none⟩) l) (hne : g0 ≠ gp) : BS (madeA w gp n gt ent q) (some ⟨g0, 0, none⟩) l :=
  ((h.far (p := ⟨gp, 0, none⟩) (fun b o e => by injection e with e; injection e with e1; subst e1; exact hne) _).alloc _).alloc _
theorem madeA_ent (w : World) (gp n gt : Nat) (q : Int) (m : List UInt8) : BS (madeA w gp n gt (m.map bv).toArray q) (some ⟨w.heap.size, 0, none⟩) m :=
  (BS.lit (set_size w _ _) m _ 5 (5, 6) rfl).alloc _
theorem madeA_size (w : World) (gp n gt : Nat) (ent : Array Value) (q : Int) : (madeA w gp n gt ent q).heap.size = w.heap.size + 2 := by simp [madeA, World.setCell]
theorem madeA_grown {w w' : World} {gp n gt : Nat} {ent : Array Value} {q : Int} (hg : w.heap.size + 1 = gt) (h : (madeA w gp n gt ent q).grownBy w' (some gt)) : w.grownBy w' (some gp) := by
  refine ⟨h.os, h.tape, h.output, ?_, fun i hi hne => ?_⟩
  · have := h.size
    rw [madeA_size] at this
    omega
  · have e := h.block i (by rw [madeA_size]; omega) (fun e => by injection e with e; omega)
    rw [e]
    have e2 := Below.heap_setCell w ⟨gp, 0, none⟩ (.slice (some ⟨gt, 0, none⟩) 0 n) i (fun e => hne (by rw [e]))
    have e3 := Below.heap_alloc (w.setCell ⟨gp, 0, none⟩ (.slice (some ⟨gt, 0, none⟩) 0 n)) (.cells ent 5 (5, 6)) i (by rw [set_size]; exact hi)
    exact (Below.heap_alloc _ _ i (by simp [World.setCell]; omega)).trans (e3.trans e2)
theorem EscIn.close {f : UInt8 → List UInt8} {q : UInt8} {l cur : List UInt8} {s j r : Nat} (h : EscIn f [q] l cur l.length s j) (hr : r = l.length - s) (hj : j + r < cur.length) : ((put8 cur j (l.drop s)).set (j + r) q).take (j + r + 1) = [q] ++ esc f l ++ [q] := by
  subst hr
  have hl := h.last
  have e1 : (put8 cur j (l.drop s)).length = cur.length := put8_len (by rw [List.length_drop]; omega)
  rw [List.take_succ_eq_append_getElem (by simp; omega), List.take_set_of_le (Nat.le_refl _), hl]
  simp


end Go.Proofs.YtfelfbgppkiimaaDoor
