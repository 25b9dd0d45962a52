/- A map of strings to lists of bytes that the call makes, told by the list of its entries. Condition: keys shorter than 2^31. -/
import Derived.Test.YtnepjlfkbmindaaDoorWd
import Derived.Test.YtnepjlfkbmindaaDoorRp
import Derived.Maps.OwnOps
import Derived.Maps.OwnSet
import Derived.Maps.StringElems
namespace Go.Proofs.YtnepjlfkbmindaaDoor
open Go.RowKit Go.Maps Go.WideMaps Go.ChangeMaps
set_option linter.unusedVariables false
set_option linter.unusedSimpArgs false

abbrev sv (x : List UInt8) : Value := .string ⟨x.toArray⟩
theorem strLaw : Keyed Tryd.prog 9 := string_keyed Tryd.underlying9
theorem zeroL (w : World) : (zeroValue 26).run Tryd.prog w = .ok (.slice none 0 0) w := by kernel_rfl
theorem key_of (x : List UInt8) (hx : x.length ≤ 2147483647) : keyOf Tryd.prog 9 (sv x) = some (.string x) :=
  keyOf_string_mk Tryd.underlying9 (by show x.toArray.size ≤ maxLen; simp [maxLen]; omega)
/-- How a slice reads: by its address, its length and its room. -/
def slR : Value → Option (DataW Unit × List MemPlace)
  | .slice none n c => some (.agg [.lit (.int .i64 n), .lit (.int .i64 c)], [])
  | .slice (some ⟨b, o, none⟩) n c => some (.agg [.lit (.int .i64 b), .lit (.int .i64 o), .lit (.int .i64 n), .lit (.int .i64 c)], [])
  | _ => none
theorem slR_inj {u v : Value} {d : DataW Unit × List MemPlace} (hu : slR u = some d) (hv : slR v = some d) : u = v := by
  unfold slR at hu hv
  split at hu <;> split at hv <;> first
    | (cases hu; done)
    | (cases hv; done)
    | (injection hu with hu; injection hv with hv; subst hu; simp at hv; done)
    | (injection hu with hu; injection hv with hv; subst hu; simp at hv; obtain ⟨h1, h2, h3, h4⟩ := hv; have h1 := Int.ofNat.inj h1; have h2 := Int.ofNat.inj h2; have h3 := Int.ofNat.inj h3; have h4 := Int.ofNat.inj h4; subst h1 h2 h3 h4; rfl)
    | (injection hu with hu; injection hv with hv; subst hu; simp at hv; obtain ⟨h1, h2⟩ := hv; have h1 := Int.ofNat.inj h1; have h2 := Int.ofNat.inj h2; subst h1 h2; rfl)
abbrev EntV := List UInt8 × Value
/-- The datum of a map with these entries. -/
structure DataS (D : DataW Unit) (ps : List EntV) : Prop where
  has : ∀ x, Maps.has D (.string x) = true ↔ x ∈ ps.map (·.1)
  at_ : ∀ p ∈ ps, ∀ z, slR p.2 = some (D.atKey (.string p.1) z, [])
/-- The map at block B with these entries. -/
def MapS (w : World) (B : Nat) (ps : List EntV) : Prop := ∃ D, w.ownsMap Tryd.prog 9 slR B ps.length D ∧ DataS D ps
section
variable {w w' : World} {B : Nat} {ps : List EntV}
theorem MapS.kept {row : Option Nat} (h : MapS w B ps) (hg : w.grownBy w' row) (hne : some B ≠ row) : MapS w' B ps := by
  obtain ⟨D, h1, h2⟩ := h
  exact ⟨D, h1.kept hg hne, h2⟩
theorem MapS.lt (h : MapS w B ps) : B < w.heap.size := by
  obtain ⟨D, h1, h2⟩ := h
  exact h1.lt
theorem MapS.new (w : World) : MapS (w.alloc (.map #[] 0)) w.heap.size [] :=
  ⟨.map [], World.ownsMap_made _ _ _ _, ⟨fun x => by simp [Maps.has], fun p hp => by simp at hp⟩⟩
theorem str_ne {x y : List UInt8} (h : x ≠ y) : (Lit.string x) ≠ .string y := fun e => h (by injection e)
theorem MapS.put (h : MapS w B ps) (k : List UInt8) (v : Value) (hk : k.length ≤ 2147483647) {d : DataW Unit} (hv : slR v = some (d, [])) (hl : ps.length ≤ 1000) (hnew : k ∉ ps.map (·.1)) :
    ∃ w', (Instr.mapUpdate 39 (.map (some B)) (sv k) v).run Tryd.prog w = .ok () w' ∧ MapS w' B (ps ++ [(k, v)]) ∧ w.grownBy w' (some B) := by
  obtain ⟨D, h1, h2⟩ := h
  obtain ⟨w', hrun, ho, hg⟩ := h1.update strLaw Tryd.underlying39 (by simp [maxLen]; omega) (key_of k hk) hv
  have hm := h1.isMap
  have hkl : WideAt.IsKeyLit (.string k) := by simp [WideAt.IsKeyLit]
  refine ⟨w', hrun, ⟨_, by simpa using ho, ⟨fun x => ?_, fun p hp z => ?_⟩⟩, hg⟩
  · by_cases e : x = k
    · subst e
      rw [Maps.has_put_same hm hkl]
      simp
    · rw [Maps.has_put_other (str_ne e), h2.has x]
      simp [e]
  · rcases List.mem_append.1 hp with hp | hp
    · have e : p.1 ≠ k := fun e => hnew (by rw [← e]; exact List.mem_map_of_mem hp)
      rw [Maps.atKey_put_other (str_ne e)]
      exact h2.at_ p hp z
    · simp at hp
      subst hp
      rw [Maps.atKey_put_same hm hkl _ z]
      exact hv
theorem MapS.look (h : MapS w B ps) {p : EntV} (hp : p ∈ ps) (hk : p.1.length ≤ 2147483647) :
    (Instr.lookup 39 (.map (some B)) (sv p.1) true).run Tryd.prog w = .ok (.tuple #[p.2, .bool true]) w := by
  obtain ⟨D, h1, h2⟩ := h
  obtain ⟨v, qs, hrun, hv⟩ := h1.look_ok strLaw Tryd.underlying39 (zeroL w) (show slR (.slice none 0 0) = some (_, _) from rfl) (key_of p.1 hk)
  have hat := h2.at_ p hp (.agg [.lit (.int .i64 (0 : Nat)), .lit (.int .i64 (0 : Nat))])
  have hh : Maps.has D (.string p.1) = true := (h2.has p.1).2 (List.mem_map_of_mem hp)
  rw [hrun, hh]
  have e : qs = [] := by
    unfold slR at hv
    split at hv
    · injection hv with hv; injection hv with _ hv; exact hv.symm
    · injection hv with hv; injection hv with _ hv; exact hv.symm
    · cases hv
  subst e
  rw [slR_inj hv hat]
/-- A look-up in no map. -/
theorem look_no (w : World) (x : UInt8) : (Instr.lookup 41 (.map none) (.int .u8 (x.toNat : Int)) true).run Tryd.prog w = .ok (.tuple #[.slice none 0 0, .bool false]) w := by
  have hx := x.toNat_lt
  exact Maps.look_nil true (int_keyed Tryd.underlying5) Tryd.underlying41 (zeroL w) (kl := .int .u8 (x.toNat : Int)) (keyOf_int_mk Tryd.underlying5 (by simp [Lit.wf, IntKind.min, IntKind.max, IntKind.signed, IntKind.bits]; omega))
theorem MapS.drew (h : MapS w B ps) : MapS w.drew B ps := by
  obtain ⟨D, h1, h2⟩ := h
  exact ⟨D, h1.drew, h2⟩
end
/-- The values of a list of lists: their slices. -/
def Vals (w : World) (A : Option Addr) (ls : List (List UInt8)) (tv : List Value) : Prop := tv.length = ls.length ∧ ∀ (i : Nat) (x : List UInt8), ls[i]? = some x → ∃ b o Ai ci, A = some ⟨b, o, none⟩ ∧ w.cell? ⟨b, o + i, none⟩ = some (.slice Ai x.length ci) ∧ x.length ≤ ci ∧ BS w Ai x ∧ tv[i]? = some (.slice Ai x.length ci) ∧ (∀ a, Ai = some a → a.spot = none)
/-- From a list of facts, a list. -/
theorem list_of_lt {α : Type} {P : Nat → α → Prop} : ∀ {n : Nat}, (∀ i, i < n → ∃ z, P i z) → ∃ l : List α, l.length = n ∧ ∀ i (h : i < l.length), P i l[i]
  | 0, _ => ⟨[], rfl, fun i h => absurd h (by simp)⟩
  | n + 1, h => by
    obtain ⟨l, hl, hp⟩ := list_of_lt (n := n) (fun i hi => h i (by omega))
    obtain ⟨z, hz⟩ := h n (by omega)
    refine ⟨l ++ [z], by simp [hl], fun i hi => ?_⟩
    rcases Nat.lt_or_ge i l.length with h1 | h1
    · rw [List.getElem_append_left h1]
      exact hp i h1
    · have : i = n := by simp at hi; omega
      subst this
      rw [List.getElem_append_right (by omega)]
      simpa [hl] using hz
theorem vals_of {w : World} {A : Option Addr} {ls : List (List UInt8)} (h : LL w A ls) (hne : ∀ (i : Nat) (x : List UInt8), ls[i]? = some x → 0 < x.length) : ∃ tv, Vals w A ls tv := by
  obtain ⟨tv, h1, h2⟩ := list_of_lt (n := ls.length) (P := fun (i : Nat) (v : Value) => ∀ x, ls[i]? = some x → ∃ b o Ai ci, A = some ⟨b, o, none⟩ ∧ w.cell? ⟨b, o + i, none⟩ = some (.slice Ai x.length ci) ∧ x.length ≤ ci ∧ BS w Ai x ∧ v = .slice Ai x.length ci ∧ (∀ a, Ai = some a → a.spot = none)) (fun i hi => by
    obtain ⟨b, o, Ai, ci, e1, e2, e3, e4⟩ := h i ls[i] (List.getElem?_eq_getElem hi)
    refine ⟨.slice Ai ls[i].length ci, fun x hx => ?_⟩
    obtain rfl : ls[i] = x := by rw [List.getElem?_eq_getElem hi] at hx; exact Option.some.inj hx
    refine ⟨b, o, Ai, ci, e1, e2, e3, e4, rfl, fun a ha => ?_⟩
    obtain ⟨b', o', e, _, _⟩ := e4.form (hne i _ (List.getElem?_eq_getElem hi))
    rw [ha] at e
    injection e with e
    rw [e])
  refine ⟨tv, h1, fun i x hx => ?_⟩
  have hi : i < tv.length := by rw [h1]; exact (List.getElem?_eq_some_iff.1 hx).1
  obtain ⟨b, o, Ai, ci, e1, e2, e3, e4, e5, e6⟩ := h2 i hi x hx
  exact ⟨b, o, Ai, ci, e1, e2, e3, e4, by rw [List.getElem?_eq_getElem hi, e5], e6⟩
theorem slR_some {A : Option Addr} {n c : Nat} (h : ∀ a, A = some a → a.spot = none) : ∃ d, slR (.slice A n c) = some (d, []) := by
  rcases A with _ | ⟨b, o, sp⟩
  · exact ⟨_, rfl⟩
  · have := h _ rfl
    have e : sp = none := this
    subst e
    exact ⟨_, rfl⟩
theorem zipv_succ {ns : List (List UInt8)} {tv : List Value} {i : Nat} {x : List UInt8} {v : Value} (hx : ns[i]? = some x) (hv : tv[i]? = some v) : (ns.zip tv).take (i + 1) = (ns.zip tv).take i ++ [(x, v)] := by
  have h : (ns.zip tv)[i]? = some (x, v) := by
    rw [List.getElem?_zip_eq_some]
    exact ⟨hx, hv⟩
  obtain ⟨hi, e⟩ := List.getElem?_eq_some_iff.1 h
  rw [List.take_succ_eq_append_getElem hi, e]
theorem zipv_new {ns : List (List UInt8)} {tv : List Value} {i : Nat} {x : List UInt8} (hl : tv.length = ns.length) (hx : ns[i]? = some x) (hnd : ns.Nodup) : x ∉ ((ns.zip tv).take i).map (·.1) := by
  rw [List.map_take, show (fun p : List UInt8 × Value => p.1) = Prod.fst from rfl, List.map_fst_zip (by omega)]
  intro hm
  obtain ⟨j, hj⟩ := List.getElem?_of_mem hm
  rw [List.getElem?_take] at hj
  split at hj
  · rename_i hji
    have h1 := (List.getElem?_eq_some_iff.1 hj).1
    have := (List.getElem?_inj h1 hnd).1 (hj.trans hx.symm)
    omega
  · cases hj
end Go.Proofs.YtnepjlfkbmindaaDoor
