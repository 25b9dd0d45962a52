/- Words of my own for lists of bytes in memory: a slice that reads as a list of bytes; a block that is known whole. No condition. -/
import Derived.Test.YtnepjlfkbmindaaDoorChecked
import Derived.WalkKit
import Derived.ProofKit
import Derived.OpenShut
import Derived.ShutString
import Derived.ChangeOld
import Derived.Below
import Derived.WalkLawsBesides
import Derived.WalkSpells
import Derived.Outline
import Derived.Laws.OwnMore
import Derived.Deep.AppendLies
import Derived.Deep.Draws
import Derived.Deep.LoopGhost
import Derived.Deep.QuietTactic
import Derived.BigQuiet
import Derived.Laws.CopyOwn
import Derived.Laws.IdiomStrings
import Derived.Laws.BytesString
import Derived.Maps.AppendAt
import Derived.RegionTactic
import Derived.OwnWalk
import Derived.Deep.OwnRows
import Derived.Lib.SlBytesConst
namespace Go.Proofs.YtnepjlfkbmindaaDoor
open Go.RowKit Go.ChangeShapes Go.WideShapes Go.ChangeAt

/-- A fact kept from the walk. -/
theorem hide {p : Prop} (h : p) : Hid p := h

set_option linter.unusedVariables false

theorem quiet_left {P : Program} {f : FuncId} {args : Array Value} {w : World} {n : Nat} {v : Value}
    (h : Calls P f args (w.drewN n) fun e w' => e = .returned v ∧ w.drewN n = w') : Calls P f args (w.drewN n) fun e w'' => e = .returned v ∧ ∃ m, w'' = w.drewN m :=
  h.mono fun _ _ ⟨he, hm⟩ => ⟨he, n, hm.symm⟩
theorem quiet_add_left {P : Program} {f : FuncId} {args : Array Value} {w : World} {a n : Nat} {v : Value}
    (h : Calls P f args (w.drewN (a + n)) fun e w' => e = .returned v ∧ w.drewN (a + n) = w') :
    Calls P f args (w.drewN (a + n)) fun e w'' => e = .returned v ∧ ∃ m, w'' = w.drewN (a + m) :=
  h.mono fun _ _ ⟨he, hm⟩ => ⟨he, n, hm.symm⟩
theorem quiet_add {P : Program} {f : FuncId} {args : Array Value} {w : World} {a n : Nat} {v : Value}
    (h : Calls P f args (w.drewN (a + n)) fun e w' => e = .returned v ∧ ∃ m, w' = (w.drewN (a + n)).drewN m) :
    Calls P f args (w.drewN (a + n)) fun e w'' => e = .returned v ∧ ∃ m, w'' = w.drewN (a + m) :=
  h.mono fun _ _ ⟨he, m, hm⟩ => ⟨he, n + m, by rw [hm, World.drewN_drewN, Nat.add_assoc]⟩
theorem below_drewN {B : Nat} {a w : World} (h : Below B a w) (n : Nat) : Below B a (w.drewN n) := ⟨h.os, h.tape, h.output, h.size, h.block⟩
theorem drew_two (w : World) (a b : Nat) : ∃ m, (w.drewN a).drewN b = w.drewN m := ⟨a + b, World.drewN_drewN _ _ _⟩
theorem drew_one (w : World) (a : Nat) : ∃ m, w.drewN a = w.drewN m := ⟨a, rfl⟩
theorem drew_no (w : World) : ∃ m, w = w.drewN m := ⟨0, rfl⟩
theorem ret_bool {a b : Bool} (h : a = b) : Ending.returned (.bool a) = .returned (.bool b) := by rw [h]
theorem ret_int {k : IntKind} {a b : Int} (h : a = b) : Ending.returned (.int k a) = .returned (.int k b) := by rw [h]

/-- The value of a byte. -/
abbrev bv (c : UInt8) : Value := .int .u8 (c.toNat : Int)

/-- The slice at A reads as the bytes l. -/
def BS (w : World) (A : Option Addr) (l : List UInt8) : Prop :=
  ∀ i (h : i < l.length), ∃ b o, A = some ⟨b, o, none⟩ ∧ w.cell? ⟨b, o + i, none⟩ = some (bv l[i])

/-- Block g holds just the bytes l. -/
def Blk8 (w : World) (g : Nat) (l : List UInt8) : Prop := w.heap[g]? = some (.cells (l.map bv).toArray 5 (0, 0))

section
variable {w w' : World} {A : Option Addr} {l m : List UInt8}

theorem BS.nil (w : World) (A : Option Addr) : BS w A [] := fun i h => absurd h (by simp)
theorem BS.at_ (h : BS w A l) {k : Nat} {c : UInt8} (hk : l[k]? = some c) : ∃ b o, A = some ⟨b, o, none⟩ ∧ w.cell? ⟨b, o + k, none⟩ = some (.int .u8 (c.toNat : Int)) := by
  obtain ⟨hl, e⟩ := List.getElem?_eq_some_iff.1 hk
  subst e
  exact h k hl
theorem BS.form (h : BS w A l) (hl : 0 < l.length) : ∃ b o, A = some ⟨b, o, none⟩ ∧ b < w.heap.size ∧ ∀ i (hi : i < l.length), w.cell? ⟨b, o + i, none⟩ = some (bv l[i]) := by
  obtain ⟨b, o, e, hc⟩ := h 0 hl
  refine ⟨b, o, e, block_lt_of_cell hc, fun i hi => ?_⟩
  obtain ⟨b', o', e', hc'⟩ := h i hi
  rw [e] at e'
  simp only [Option.some.injEq, Addr.mk.injEq, and_true] at e'
  obtain ⟨rfl, rfl⟩ := e'
  exact hc'
theorem BS.keep (h : BS w A l) (hk : ∀ p : Addr, p.block < w.heap.size → w'.cell? p = w.cell? p) : BS w' A l := fun i hi => by
  obtain ⟨b, o, e, hc⟩ := h i hi
  exact ⟨b, o, e, (hk _ (block_lt_of_cell hc)).trans hc⟩
theorem BS.below (h : BS w A l) (hb : Below w.heap.size w w') : BS w' A l := h.keep fun _ hp => hb.cell hp
theorem BS.belowN {B : Nat} (h : BS w A l) (hb : Below B w w') (hB : w.heap.size ≤ B) : BS w' A l := h.below (hb.mono hB)
theorem BS.drew (h : BS w A l) : BS w.drew A l := h
theorem BS.drewN (h : BS w A l) (k : Nat) : BS (w.drewN k) A l := h
theorem BS.alloc (h : BS w A l) (o : Obj) : BS (w.alloc o) A l := h.keep fun p hp => World.cell?_alloc_lt w o p hp
theorem BS.far (h : BS w A l) {p : Addr} (hp : ∀ b o, A = some ⟨b, o, none⟩ → b ≠ p.block) (u : Value) : BS (w.setCell p u) A l := fun i hi => by
  obtain ⟨b, o, e, hc⟩ := h i hi
  exact ⟨b, o, e, (World.cell?_setCell_other w p _ u (fun e' => hp b o e (by rw [e']))).trans hc⟩
theorem BS.cut (h : BS w A l) {b o : Nat} (e : A = some ⟨b, o, none⟩) (k : Nat) : BS w (some ⟨b, o + k, none⟩) (l.drop k) := fun i hi => by
  have hi' : k + i < l.length := by simp at hi; omega
  obtain ⟨b', o', e', hc⟩ := h (k + i) hi'
  rw [e] at e'
  simp only [Option.some.injEq, Addr.mk.injEq, and_true] at e'
  obtain ⟨rfl, rfl⟩ := e'
  exact ⟨b, o + k, rfl, by rw [Nat.add_assoc, hc, List.getElem_drop]⟩
theorem BS.take (h : BS w A l) (k : Nat) : BS w A (l.take k) := fun i hi => by
  have hi' : i < l.length := by simp at hi; omega
  obtain ⟨b, o, e, hc⟩ := h i hi'
  exact ⟨b, o, e, by rw [hc, List.getElem_take]⟩
/-- string(b). -/
theorem run_str {P : Program} (h : BS w A l) (c : Nat) (src dst e : TypeId) (hs : P.underlying src = some (.slice e)) (he : P.underlying e = some (.int .u8)) (hd : P.underlying dst = some .string) :
    (convert src dst (.slice A l.length c)).run P w = .ok (.string ⟨l.toArray⟩) w := by
  rcases Nat.eq_zero_or_pos l.length with h0 | h0
  · obtain rfl : l = [] := List.eq_nil_of_length_eq_zero h0
    rcases A with _ | a
    · show (convert src dst (.slice none 0 c)).run P w = _
      rw [run_convert_bytes_string w src dst e none 0 c hs he hd]
      rfl
    · exact run_convert_bytes_back w src dst e a c [] hs he hd (fun j hj => absurd hj (by simp))
  · obtain ⟨b, o, rfl, _, hc⟩ := h.form h0
    refine run_convert_bytes_back w src dst e _ c l hs he hd (fun j hj => ?_)
    have := hc j hj
    unfold Addr.add
    split
    · rename_i hj0; subst hj0; simpa using this
    · exact this

theorem Blk8.lt {g : Nat} (h : Blk8 w g l) : g < w.heap.size := by
  rcases Nat.lt_or_ge g w.heap.size with hlt | hge
  · exact hlt
  · unfold Blk8 at h; rw [Array.getElem?_eq_none hge] at h; cases h
theorem Blk8.cell {g : Nat} (h : Blk8 w g l) {i : Nat} {c : UInt8} (hi : l[i]? = some c) : w.cell? ⟨g, i, none⟩ = some (.int .u8 (c.toNat : Int)) := by
  rw [cell_of_row w g i _ 5 (0, 0) h]
  simp [hi]
theorem Blk8.frozen {g : Nat} (h : Blk8 w g l) (i : Nat) : w.frozen? ⟨g, i, none⟩ = false := by
  unfold Blk8 at h
  simp [World.frozen?, h]
theorem Blk8.new (w : World) (l : List UInt8) : Blk8 (w.alloc (.cells (l.map bv).toArray 5)) w.heap.size l := heap_alloc_new w _
theorem Blk8.drew {g : Nat} (h : Blk8 w g l) : Blk8 w.drew g l := h
theorem Blk8.drewN {g : Nat} (h : Blk8 w g l) (n : Nat) : Blk8 (w.drewN n) g l := h
theorem Blk8.alloc {g : Nat} (h : Blk8 w g l) (o : Obj) : Blk8 (w.alloc o) g l := (Below.heap_alloc w o g h.lt).trans h
theorem Blk8.set_ {g : Nat} (h : Blk8 w g l) (i : Nat) (c : UInt8) : Blk8 (w.setCell ⟨g, i, none⟩ (.int .u8 (c.toNat : Int))) g (l.set i c) := by
  unfold Blk8 at h ⊢
  simp [World.setCell, Array.getElem?_modify, h, List.map_set]
theorem Blk8.far {g : Nat} (h : Blk8 w g l) {p : Addr} (hp : g ≠ p.block) (u : Value) : Blk8 (w.setCell p u) g l := (Below.heap_setCell w p u g hp).trans h
theorem Blk8.below {g B : Nat} (h : Blk8 w g l) (hb : Below B w w') (hg : g < B) : Blk8 w' g l := (hb.block g hg).trans h
theorem Blk8.grown {g : Nat} {row : Option Nat} (h : Blk8 w g l) (hb : w.grownBy w' row) (hg : some g ≠ row) : Blk8 w' g l := (hb.block g h.lt hg).trans h
/-- A part of a block as a slice. -/
theorem Blk8.bs {g : Nat} (h : Blk8 w g l) (k n : Nat) : BS w (some ⟨g, k, none⟩) ((l.drop k).take n) := fun i hi => by
  have hi' : i < n ∧ k + i < l.length := by simp at hi; omega
  refine ⟨g, k, rfl, ?_⟩
  rw [h.cell (c := l[k + i]) (List.getElem?_eq_getElem hi'.2)]
  simp
theorem Blk8.bs0 {g : Nat} (h : Blk8 w g l) (n : Nat) : BS w (some ⟨g, 0, none⟩) (l.take n) := by simpa using h.bs 0 n
theorem Blk8.all {g : Nat} (h : Blk8 w g l) : BS w (some ⟨g, 0, none⟩) l := by simpa using h.bs0 l.length
end

theorem made8 (w : World) (n : Nat) : Blk8 (w.alloc (.cells (madeCells #[.int .u8 0] n) 5)) w.heap.size (List.replicate n 0) := by
  have e : madeCells #[.int .u8 0] n = ((List.replicate n (0 : UInt8)).map bv).toArray := by
    apply Array.ext
    · simp [madeCells]
    · intro i h1 h2
      simp [madeCells, bv, Nat.mod_one]
  unfold Blk8
  rw [e]
  exact heap_alloc_new w _

/-- The builtin copy into a block of bytes: from a slice that reads as l. -/
theorem run_copy8 {P : Program} {w : World} {A : Option Addr} {l cur : List UInt8} {g : Nat} (T ty : TypeId) (hu : P.underlying T = some (.slice 5)) (hs : (P.info? 5).map (·.size) = some 1)
    (hg : Blk8 w g cur) (h : BS w A l) (o dLen dCap c k : Nat) (hk : k = min l.length dLen) (hfit : o + k ≤ cur.length) :
    ∃ w', (Builtin.copy_ #[T, T] ty #[.slice (some ⟨g, o, none⟩) dLen dCap, .slice A l.length c]).run P w = .ok (.int .i64 (k : Int)) w' ∧
      Blk8 w' g (cur.take o ++ l.take k ++ cur.drop (o + k)) ∧ w.grownBy w' (some g) ∧ w'.heap.size = w.heap.size := by
  rcases Nat.eq_zero_or_pos k with h0 | h0
  · subst h0
    have hm : Nat.min l.length dLen = 0 := by show min l.length dLen = 0; omega
    refine ⟨w, run_copy_none w T T ty 5 _ _ dLen dCap l.length c hu hs hm, by simpa using hg, World.grownBy.refl w _, rfl⟩
  · have hkl : k ≤ l.length := by omega
    obtain ⟨b, o', rfl, _, hc⟩ := h.form (by omega)
    have hn : ((l.take k).map bv).length = Nat.min l.length dLen := by show _ = min l.length dLen; simp; omega
    have hrun := run_copy_row (P := P) w T T ty 5 g o dLen dCap ⟨b, o', none⟩ l.length c _ 5 ((l.take k).map bv) hu hs hg hn
      (fun j v hj => by
        obtain ⟨hj1, hj2⟩ := List.getElem?_eq_some_iff.1 hj
        have hj3 : j < l.length := by simp at hj1; omega
        have := hc j hj3
        have e : (⟨b, o', none⟩ : Addr).add j = ⟨b, o' + j, none⟩ := by
          unfold Addr.add
          split
          · rename_i h0; subst h0; rfl
          · rfl
        rw [e, this, ← hj2]
        simp)
      (by simp; omega) (fun v hv => by obtain ⟨x, _, rfl⟩ := List.mem_map.1 hv; rfl)
    have e1 : goInt ((l.take k).map bv).length = .int .i64 (k : Int) := by simp [goInt, Nat.min_eq_left hkl]
    rw [e1] at hrun
    refine ⟨_, hrun, ?_, ?_, ?_⟩
    · unfold Blk8 at hg ⊢
      have e2 : ((List.map bv cur).toArray.toList.take o ++ (l.take k).map bv ++ (List.map bv cur).toArray.toList.drop (o + ((l.take k).map bv).length)) = (cur.take o ++ l.take k ++ cur.drop (o + k)).map bv := by
        simp [List.map_take, List.map_drop, Nat.min_eq_left hkl]
      rw [e2]
      simp [World.setRow, Array.getElem?_modify, hg]
    · exact ⟨rfl, rfl, rfl, by simp [World.setRow], fun i _ hne => setRow_other w g i _ (fun e => hne (by rw [e]))⟩
    · simp [World.setRow]

/-- '[]byte("..")' of a constant: the conversion of the new row. -/
theorem run_bytes_lit {P : Program} (t e : TypeId) (ht : P.underlying t = some (.slice e)) (he : P.underlying e = some (.int .u8)) (w : World) (g n c : Nat) (C : Array Value) (hg : w.heap.size = g) :
    (convert t t (.slice (some ⟨g, 0, none⟩) n c)).run P (w.alloc (.cells C e)) = .ok (.slice (some ⟨g, 0, none⟩) n c) (w.alloc (.cells C e (C.size, C.size + 1))) := by
  subst hg
  exact Lib.run_convert_bytes_const w t e C n c ht he
theorem run_bytes_lit1 {P : Program} (t e : TypeId) (ht : P.underlying t = some (.slice e)) (he : P.underlying e = some (.int .u8)) (w : World) (q n c : Nat) (C : Array Value) :
    (convert t t (.slice (some ⟨w.heap.size, 0, none⟩) n c)).run P ((w.drewN q).alloc (.cells C e)) = .ok (.slice (some ⟨w.heap.size, 0, none⟩) n c) ((w.drewN q).alloc (.cells C e (C.size, C.size + 1))) :=
  run_bytes_lit t e ht he (w.drewN q) w.heap.size n c C rfl
theorem run_bytes_lit2 {P : Program} (t e : TypeId) (ht : P.underlying t = some (.slice e)) (he : P.underlying e = some (.int .u8)) (w : World) (q n c : Nat) (o : Obj) (C : Array Value) :
    (convert t t (.slice (some ⟨w.heap.size + 1, 0, none⟩) n c)).run P (((w.drewN q).alloc o).alloc (.cells C e)) = .ok (.slice (some ⟨w.heap.size + 1, 0, none⟩) n c) (((w.drewN q).alloc o).alloc (.cells C e (C.size, C.size + 1))) :=
  run_bytes_lit t e ht he ((w.drewN q).alloc o) (w.heap.size + 1) n c C (by simp)
theorem run_bytes_lit3 {P : Program} (t e : TypeId) (ht : P.underlying t = some (.slice e)) (he : P.underlying e = some (.int .u8)) (w : World) (n c : Nat) (o : Obj) (C : Array Value) :
    (convert t t (.slice (some ⟨w.heap.size + 1, 0, none⟩) n c)).run P ((w.alloc o).alloc (.cells C e)) = .ok (.slice (some ⟨w.heap.size + 1, 0, none⟩) n c) ((w.alloc o).alloc (.cells C e (C.size, C.size + 1))) :=
  run_bytes_lit t e ht he (w.alloc o) (w.heap.size + 1) n c C (by simp)
/-- A new row reads as what it holds. -/
theorem BS.lit {w : World} {g : Nat} (hg : w.heap.size = g) (l : List UInt8) (C : Array Value) (e : TypeId) (fr : Nat × Nat) (hC : C = (l.map bv).toArray) : BS (w.alloc (.cells C e fr)) (some ⟨g, 0, none⟩) l := fun i hi => by
  subst hg hC
  refine ⟨w.heap.size, 0, rfl, ?_⟩
  rw [World.cell?_alloc_mark]
  simp [List.getElem?_eq_getElem hi]

theorem u8_info : (Tryd.prog.info? 5).map (fun i => (i.zero, i.size, i.bytes)) = some (some (.int .u8 0), 1, 1) := by kernel_rfl
theorem grown_set {a w : World} {g : Nat} (h : a.grownBy w (some g)) {p : Addr} (hp : p.block = g ∨ a.heap.size ≤ p.block) (u : Value) : a.grownBy (w.setCell p u) (some g) :=
  ⟨h.os, h.tape, h.output, by simpa [World.setCell] using h.size, fun i hi hne => (Below.heap_setCell w p u i (by
    rintro rfl
    rcases hp with hp | hp
    · exact hne (by rw [hp])
    · omega)).trans (h.block i hi hne)⟩

/-! A row of bytes of the call's own: the slice '.slice A n c' begins at its head and reads as l; blocks from 'base' on are the call's own. -/
def OwnB (w : World) (base : Nat) (A : Option Addr) (n c : Nat) (l : List UInt8) : Prop := l.length = n ∧ w.ownsRow base 5 1 (.slice A n c) n (l.map bv)
/-- The block of a slice. -/
def blk (A : Option Addr) : Option Nat := A.map (·.block)
theorem ownBlock_blk (A : Option Addr) (n c : Nat) : (Value.slice A n c).ownBlock = blk A := by cases A <;> rfl
section
variable {w w' w0 : World} {base n c : Nat} {A : Option Addr} {l : List UInt8}
theorem OwnB.len (h : OwnB w base A n c l) : l.length = n := h.1
theorem OwnB.le (h : OwnB w base A n c l) : n ≤ c ∧ c ≤ maxLen := by
  rcases h.2.2 with ⟨e, hn⟩ | ⟨g, cap, cur, e, _, _, h1, h2, _⟩
  · injection e with _ e1 e2
    subst e1 e2
    exact ⟨Nat.le_refl _, by simp [maxLen]⟩
  · injection e with _ e1 e2
    subst e2
    exact ⟨h1, h2⟩
theorem OwnB.nil (w : World) (base : Nat) : OwnB w base none 0 0 [] := ⟨rfl, World.ownsRow_nil _ _ _ _⟩
theorem OwnB.empty (w : World) {base g : Nat} (hb : base ≤ w.heap.size) (hg : w.heap.size = g) : OwnB (w.alloc (.cells #[] 5)) base (some ⟨g, 0, none⟩) 0 0 [] := by
  subst hg
  exact ⟨rfl, World.ownsRow_made w #[] 0 hb (by simp [maxLen]) rfl⟩
theorem OwnB.blk_ge (h : OwnB w base A n c l) : ∀ k, blk A = some k → base ≤ k := fun k hk => (h.2.lt k (by rw [ownBlock_blk]; exact hk)).1
theorem OwnB.blk_lt (h : OwnB w base A n c l) : ∀ k, blk A = some k → k < w.heap.size := fun k hk => (h.2.lt k (by rw [ownBlock_blk]; exact hk)).2
theorem OwnB.bs (h : OwnB w base A n c l) : BS w A l := fun i hi => by
  have hn : 0 < n := by have := h.1; omega
  obtain ⟨g, cap, hv, _, _⟩ := h.2.form hn
  injection hv with hA _ _
  subst hA
  refine ⟨g, 0, rfl, ?_⟩
  have := h.2.cells (g := g) rfl i (bv l[i]) (by simp [List.getElem?_eq_getElem hi])
  unfold Addr.add at this
  split at this
  · rename_i h0; subst h0; simpa using this
  · simpa using this
theorem OwnB.alloc (h : OwnB w base A n c l) (o : Obj) : OwnB (w.alloc o) base A n c l := ⟨h.1, h.2.alloc o⟩
theorem OwnB.drew (h : OwnB w base A n c l) : OwnB w.drew base A n c l := h
theorem OwnB.drewN (h : OwnB w base A n c l) (k : Nat) : OwnB (w.drewN k) base A n c l := h
theorem OwnB.kept {row : Option Nat} (h : OwnB w base A n c l) (hg : w.grownBy w' row) (hne : ∀ k, blk A = some k → row ≠ some k) : OwnB w' base A n c l := by
  refine ⟨h.1, h.2.kept hg ?_⟩
  rw [ownBlock_blk]
  cases hA : blk A with
  | none => exact .inl rfl
  | some k => exact .inr (fun e => hne k hA e.symm)
theorem grown_of_below (h : Below w.heap.size w w') (row : Option Nat) : w.grownBy w' row := ⟨h.os, h.tape, h.output, h.size, fun i hi _ => h.block i hi⟩
theorem OwnB.below (h : OwnB w base A n c l) (hb : Below w.heap.size w w') : OwnB w' base A n c l := h.kept (grown_of_below hb none) (fun k _ e => by cases e)
theorem OwnB.bel (h : OwnB w base A n c l) (h0 : Below base w0 w) (hg : w.grownBy w' (blk A)) (hb : base ≤ w.heap.size) : Below base w0 w' := h0.grown hg hb h.blk_ge
theorem BS.grown {row : Option Nat} (h : BS w A l) (hg : w.grownBy w' row) (hne : ∀ k, blk A = some k → row ≠ some k) : BS w' A l := fun i hi => by
  obtain ⟨b, o, e, hc⟩ := h i hi
  exact ⟨b, o, e, hg.cell hc (fun e' => hne b (by rw [e]; rfl) e'.symm)⟩
end

/-- The builtin append onto a row of bytes of the call's own. -/
theorem run_append8 {P : Program} {w : World} {base n c : Nat} {A B : Option Addr} {l m : List UInt8} (T ty : TypeId) (hu : P.underlying T = some (.slice 5))
    (hinfo : (P.info? 5).map (fun i => (i.zero, i.size, i.bytes)) = some (some (.int .u8 0), 1, 1)) (own : OwnB w base A n c l) (src : BS w B m) (k d : Nat) (hk : m.length = k) (hlen : n + k ≤ 4294967296) (hbase : base ≤ w.heap.size) :
    ∃ A' c' w', (Builtin.append_ #[T, T] ty #[.slice A n c, .slice B k d]).run P w = .ok (.slice A' (n + k) c') w' ∧ OwnB w' base A' (n + k) c' (l ++ m) ∧ w.grownBy w' (blk A) ∧ (blk A' = blk A ∨ blk A' = some w.heap.size) := by
  subst hk
  obtain ⟨i, hi, hz0, hz1, hz2⟩ := info_parts hinfo
  have form : ∀ (v : Value) (w' : World), w'.ownsRow base 5 1 v (n + m.length) ((l ++ m).map bv) → ∃ A' c', v = .slice A' (n + m.length) c' := fun v w' h => by
    rcases h.2 with ⟨e, hn⟩ | ⟨g, cap, cur, e, _⟩
    · exact ⟨none, 0, by rw [e, hn]⟩
    · exact ⟨_, _, e⟩
  rcases Nat.eq_zero_or_pos m.length with h0 | h0
  · have hm : m = [] := List.eq_nil_of_length_eq_zero h0
    subst hm
    refine ⟨A, c, w, ?_, by simpa using own, World.grownBy.refl w _, .inl rfl⟩
    have hs : ∀ x : Addr, (loadCells x 0).run P w = .ok #[] w := fun x => by simpa using run_loadCells_list (P := P) w x [] (by simp)
    have hle := own.le.1
    rcases B with _ | b <;> rcases A with _ | a <;>
      simp [Builtin.append_, run_underlying hu, sizeOf, typeInfo, hi, Builtin.lenOf, Builtin.firstCells, hle, storeCells, hs]
  · obtain ⟨b, o, rfl, _, hc⟩ := src.form h0
    obtain ⟨v', w', hrun, hown, hg, _, hat⟩ := run_append_own_at (P := P) w base T ty 5 i (.int .u8 0) 1 1 hu hi hz0 hz1 hz2 rfl (by omega) (.slice A n c) n (l.map bv) own.2 ⟨b, o, none⟩ m.length d (m.map bv) (by simp)
      (fun j v hj => by
        obtain ⟨hj1, hj2⟩ := List.getElem?_eq_some_iff.1 hj
        have hj3 : j < m.length := by simpa using hj1
        have := hc j hj3
        have e : (⟨b, o, none⟩ : Addr).add j = ⟨b, o + j, none⟩ := by
          unfold Addr.add
          split
          · rename_i h0; subst h0; rfl
          · rfl
        rw [e, this, ← hj2]
        simp)
      (fun v hv => by obtain ⟨x, _, rfl⟩ := List.mem_map.1 hv; rfl) (by simp only [maxLen]; omega) (by omega) hbase
    rw [← List.map_append] at hown
    obtain ⟨A', c', rfl⟩ := form _ _ hown
    rw [ownBlock_blk] at hg hat
    rw [ownBlock_blk] at hat
    exact ⟨A', c', w', hrun, ⟨by rw [List.length_append, own.1], hown⟩, hg, hat⟩

/-- An append whose run is known, in the walk. -/
theorem wpList_append_run {P : Program} {ops : Array Oper} {rest : List Oper} {o : Oper} {a : Act} {w : World} {Q : Exit → Act → World → Prop} {vs vx v' : Value} {w' : World} {T : TypeId}
    (hrun : (Builtin.append_ #[T, T] T #[vs, vx]).run P w = .ok v' w') (hgd : o.guard = none) (s x : Operand) (hty : o.type = T)
    (ho : o.op = .call { callee := .builtin .append, args := #[s, x], argTypes := #[T, T] }) (hs : a.eval s = vs) (hx : a.eval x = vx)
    (h : wpList P ops Q rest (a.put o.dst v') w') : wpList P ops Q (o :: rest) a w := by
  refine wpList_plain hgd fun K hK => ?_
  subst hty
  unfold Oper.wp execOp
  simp only [ho, resolve, invoke, builtin, Sem.run_bind, Sem.run_pure, Result.andThen_ok, List.map_toArray, List.map_cons, List.map_nil, hs, hx, hrun]
  exact hK _ _ h

/-- 'b[lo:hi]' of a slice that reads as bytes. -/
theorem run_cut8 {P : Program} {w : World} {A : Option Addr} {l : List UInt8} (T : TypeId) (hu : P.underlying T = some (.slice 5)) (hs : (P.info? 5).map (·.size) = some 1) (h : BS w A l)
    (c lo hi : Nat) (h1 : lo ≤ hi) (h2 : hi ≤ l.length) (h3 : l.length ≤ c) :
    ∃ A', (∀ kl kh : IntKind, (Instr.sliceAt T (.slice A l.length c) (some (.int kl (lo : Int))) (some (.int kh (hi : Int))) none).run P w = .ok (.slice A' (hi - lo) (c - lo)) w) ∧ BS w A' ((l.drop lo).take (hi - lo)) ∧ (A' = A ∨ ∃ b o, A = some ⟨b, o, none⟩ ∧ A' = some ⟨b, o + lo, none⟩) := by
  obtain ⟨i, hi', hsz⟩ := Option.map_eq_some_iff.1 hs
  have e2 : hi ≤ c := by omega
  have he : P.underlying T = some (.slice (P.elem T)) := by simp [Program.elem, hu]
  have run : ∀ kl kh : IntKind, (Instr.sliceAt T (.slice A l.length c) (some (.int kl (lo : Int))) (some (.int kh (hi : Int))) none).run P w = .ok (.slice (if c = lo then A else A.map (·.add lo)) (hi - lo) (c - lo)) w := fun kl kh => by
    rw [run_sliceAt_slice (h := he)]
    simp [Instr.slice, Instr.sliceBounds, Instr.sliceBound, asIntOf, run_underlying hu, sizeOf, typeInfo, hi', hsz, h1, e2]
  refine ⟨_, run, ?_⟩
  by_cases hc : c = lo
  · rw [if_pos hc]
    have : hi - lo = 0 := by omega
    rw [this]
    exact ⟨by simpa using BS.nil _ _, .inl rfl⟩
  · rw [if_neg hc]
    rcases Nat.eq_zero_or_pos (hi - lo) with h0 | h0
    · rw [h0]
      refine ⟨by simpa using BS.nil _ _, ?_⟩
      rcases Nat.eq_zero_or_pos lo with hl0 | hl0
      · subst hl0
        left
        cases A <;> simp [Addr.add]
      · rcases Nat.lt_or_ge 0 l.length with hll | hll
        · obtain ⟨b, o, rfl, _, _⟩ := h.form hll
          right
          exact ⟨b, o, rfl, by simp [Addr.add]; omega⟩
        · omega
    · obtain ⟨b, o, rfl, _, _⟩ := h.form (by omega)
      have ea : (some (⟨b, o, none⟩ : Addr)).map (·.add lo) = some ⟨b, o + lo, none⟩ := by
        simp only [Option.map_some, Addr.add]
        split
        · rename_i hl0; subst hl0; rfl
        · rfl
      rw [ea]
      exact ⟨(h.cut rfl lo).take _, .inr ⟨b, o, rfl, rfl⟩⟩
/-- A cut whose run is known, in the walk. -/
theorem wpList_slice_run {P : Program} {ops : Array Oper} {rest : List Oper} {o : Oper} {a : Act} {w : World} {Q : Exit → Act → World → Prop} {vx v' : Value} {vl vh : Value} {T : TypeId}
    (hrun : (Instr.sliceAt T vx (some vl) (some vh) none).run P w = .ok v' w) (hgd : o.guard = none) (x lo hi : Operand)
    (ho : o.op = .slice T x (some lo) (some hi) none) (hx : a.eval x = vx) (hl : a.eval lo = vl) (hh : a.eval hi = vh)
    (h : wpList P ops Q rest (a.put o.dst v') w) : wpList P ops Q (o :: rest) a w := by
  refine wpList_plain hgd fun K hK => ?_
  unfold Oper.wp
  simp [execOp, ho, hx, hl, hh, hrun, Result.andThen]
  exact hK _ _ h

/-- What came in as a slice of integers of one byte reads as bytes. -/
theorem bytes_in {H : Type} {enc : TypeId × Value → H} {P : Program} {w : World} {base : Nat} {spare : Nat → Bool} {held : Bool} {t e fuel : Nat} {A : Option Addr} {n c : Nat} {x : DataW H × List MemPlace}
    (ht : P.underlying t = some (.slice e)) (he : P.underlying e = some (.int .u8)) (hc : P.cellsOf e = 1)
    (h : DataW.trod enc P w base spare held fuel t [.slice A n c] = some x) : n ≤ c ∧ c ≤ maxLen ∧ ∃ l : List UInt8, l.length = n ∧ BS w A l := by
  rcases open_ints ht he hc h with ⟨hcs, _⟩ | ⟨a, len, cap, zs, hcs, _, hl, hm, hz, _, hcell, hwz⟩
  · simp only [List.cons.injEq, Value.slice.injEq, and_true] at hcs
    obtain ⟨rfl, rfl, rfl⟩ := hcs
    exact ⟨Nat.le_refl _, by simp [maxLen], [], rfl, BS.nil _ _⟩
  · simp only [List.cons.injEq, Value.slice.injEq, and_true] at hcs
    obtain ⟨rfl, rfl, rfl⟩ := hcs
    have hlz : n ≤ zs.length := by split at hz <;> omega
    refine ⟨hl, hm, (zs.take n).map fun z => UInt8.ofNat z.toNat, by simp; omega, fun i hi => ?_⟩
    have hi' : i < n := by simp at hi; omega
    have hi2 : i < zs.length := by omega
    have hci := hcell i hi2
    obtain ⟨b, o, spot⟩ := a
    have hspot : spot = none := by
      have := World.cell?_spot (hcell 0 (by omega))
      simpa [Addr.add] using this
    subst hspot
    refine ⟨b, o, rfl, ?_⟩
    have hw := bounds_u8 (hwz (zs.getD i 0) (by rw [List.getD_eq_getElem?_getD, List.getElem?_eq_getElem hi2]; simp))
    have e1 : (⟨b, o, none⟩ : Addr).add i = ⟨b, o + i, none⟩ := by
      unfold Addr.add
      split
      · rename_i h0; subst h0; rfl
      · rfl
    rw [e1] at hci
    rw [hci]
    simp only [List.getElem_map, List.getElem_take, bv]
    rw [List.getD_eq_getElem?_getD, List.getElem?_eq_getElem hi2] at hw ⊢
    simp only [Option.getD_some] at hw ⊢
    have : ((UInt8.ofNat zs[i].toNat).toNat : Int) = zs[i] := by
      rw [UInt8.toNat_ofNat']
      omega
    rw [this]

end Go.Proofs.YtnepjlfkbmindaaDoor
