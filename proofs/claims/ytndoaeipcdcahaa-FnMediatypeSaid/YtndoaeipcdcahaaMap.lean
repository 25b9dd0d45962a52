/- A map of strings that the call makes, told by the list of its entries. Condition: keys and values shorter than 2^31. -/
import Derived.Test.YtndoaeipcdcahaaSort
import Derived.Maps.OwnOps
import Derived.Maps.StringElems
import Derived.Sort.KeysCollected
namespace Go.Proofs.Ytndoaeipcdcahaa
open Go.RowKit Go.Maps Go.WideMaps Go.ChangeMaps
set_option linter.unusedVariables false
set_option linter.unusedSimpArgs false

theorem strLaw : Keyed Try.prog 9 := string_keyed Try.underlying9
theorem zeroS (w : World) : (zeroValue 9).run Try.prog w = .ok (.string ⟨#[]⟩) w := by kernel_rfl
theorem key_of (x : List UInt8) (hx : x.length ≤ 2147483647) : keyOf Try.prog 9 (sv x) = some (.string x) :=
  keyOf_string_mk Try.underlying9 (by show x.toArray.size ≤ maxLen; simp [maxLen]; omega)
theorem elem_of (x : List UInt8) (hx : x.length ≤ 2147483647) : plainElem (H := Unit) Try.prog 9 (sv x) = some (.lit (.string x), []) :=
  plainElem_string Try.underlying9 (by show x.toArray.size ≤ maxLen; simp [maxLen]; omega)
abbrev Ent := List UInt8 × List UInt8
/-- The datum of a map with these entries. -/
structure DataOf (D : DataW Unit) (ps : List Ent) : Prop where
  has : ∀ x, Maps.has D (.string x) = true ↔ x ∈ ps.map (·.1)
  at_ : ∀ p ∈ ps, ∀ z, D.atKey (.string p.1) z = .lit (.string p.2)
/-- The map at block B with these entries. -/
def MapHas (w : World) (B : Nat) (ps : List Ent) : Prop := ∃ D, w.ownsMap Try.prog 9 (plainElem (H := Unit) Try.prog 9) B ps.length D ∧ DataOf D ps
section
variable {w w' : World} {B : Nat} {ps : List Ent}
theorem MapHas.kept {row : Option Nat} (h : MapHas w B ps) (hg : w.grownBy w' row) (hne : some B ≠ row) : MapHas w' B ps := by
  obtain ⟨D, h1, h2⟩ := h
  exact ⟨D, h1.kept hg hne, h2⟩
theorem MapHas.new (w : World) : MapHas (w.alloc (.map #[] 0)) w.heap.size [] :=
  ⟨.map [], World.ownsMap_made _ _ _ _, ⟨fun x => by simp [Maps.has], fun p hp => by simp at hp⟩⟩
theorem str_ne {x y : List UInt8} (h : x ≠ y) : (Lit.string x) ≠ .string y := fun e => h (by injection e)
theorem MapHas.put (h : MapHas w B ps) (k v : List UInt8) (hk : k.length ≤ 2147483647) (hv : v.length ≤ 2147483647) (hl : ps.length ≤ 1000) (hnew : k ∉ ps.map (·.1)) :
    ∃ w', (Instr.mapUpdate 32 (.map (some B)) (sv k) (sv v)).run Try.prog w = .ok () w' ∧ MapHas w' B (ps ++ [(k, v)]) ∧ w.grownBy w' (some B) := by
  obtain ⟨D, h1, h2⟩ := h
  obtain ⟨w', hrun, ho, hg⟩ := h1.update strLaw Try.underlying32 (by simp [maxLen]; omega) (key_of k hk) (elem_of v hv)
  have hm := h1.isMap
  have hkl : WideAt.IsKeyLit (.string k) := by simp [WideAt.IsKeyLit]
  refine ⟨w', hrun, ⟨_, by simpa using ho, ⟨fun x => ?_, fun p hp z => ?_⟩⟩, hg⟩
  · by_cases e : x = k
    · subst e
      rw [Maps.has_put_same hm hkl]
      simp
    · rw [Maps.has_put_other (str_ne e), h2.has x]
      simp [e]
  · rcases List.mem_append.1 hp with hp | hp
    · have e : p.1 ≠ k := fun e => hnew (by rw [← e]; exact List.mem_map_of_mem hp)
      rw [Maps.atKey_put_other (str_ne e)]
      exact h2.at_ p hp z
    · simp at hp
      subst hp
      exact Maps.atKey_put_same hm hkl _ z
theorem MapHas.look (h : MapHas w B ps) {p : Ent} (hp : p ∈ ps) (hk : p.1.length ≤ 2147483647) :
    (Instr.lookup 32 (.map (some B)) (sv p.1) false).run Try.prog w = .ok (sv p.2) w := by
  obtain ⟨D, h1, h2⟩ := h
  obtain ⟨v, qs, hrun, hv⟩ := h1.lookup strLaw Try.underlying32 (zeroS w) (elem_of [] (by simp)) (key_of p.1 hk)
  rw [h2.at_ p hp] at hv
  obtain ⟨s, rfl, hz, _⟩ := plainElem_string_inv Try.underlying9 hv
  rw [hrun]
  have e : s = ⟨p.2.toArray⟩ := by
    simp at hz
    rw [hz.1]
  rw [e]
end
/-- A store into a map whose run is known. -/
theorem wpList_mapUpdate_run {P : Program} {ops : Array Oper} {rest : List Oper} {o : Oper} {a : Act} {w w' : World} {Q : Exit → Act → World → Prop} {t : TypeId} {vm vk vv : Value}
    (hrun : (Instr.mapUpdate t vm vk vv).run P w = .ok () w') (m x v : Operand) (hw : Region.wanted o (yielded ops a.tmps) = true) (ho : o.op = .mapUpdate t m x v) (hm : a.eval m = vm) (hx : a.eval x = vk) (hv : a.eval v = vv)
    (h : wpList P ops Q rest (a.put o.dst undef) w') : wpList P ops Q (o :: rest) a w := by
  refine wpList_step fun K hK => ?_
  rw [if_pos hw]
  subst hm hx hv
  unfold Oper.wp execOp
  simp only [ho, Sem.run_bind, Sem.run_pure, Result.andThen_ok, hrun]
  exact hK _ _ h
/-- A look-up in a map whose run is known. -/
theorem wpList_lookup_run {P : Program} {ops : Array Oper} {rest : List Oper} {o : Oper} {a : Act} {w : World} {Q : Exit → Act → World → Prop} {t : TypeId} {vm vk v : Value}
    (hrun : (Instr.lookup t vm vk false).run P w = .ok v w) (m x : Operand) (hw : Region.wanted o (yielded ops a.tmps) = true) (ho : o.op = .lookup t m x false) (hm : a.eval m = vm) (hx : a.eval x = vk)
    (h : wpList P ops Q rest (a.put o.dst v) w) : wpList P ops Q (o :: rest) a w := by
  refine wpList_step fun K hK => ?_
  rw [if_pos hw]
  subst hm hx
  unfold Oper.wp execOp
  simp only [ho, Sem.run_bind, Sem.run_pure, Result.andThen_ok, hrun]
  exact hK _ _ h
end Go.Proofs.Ytndoaeipcdcahaa
