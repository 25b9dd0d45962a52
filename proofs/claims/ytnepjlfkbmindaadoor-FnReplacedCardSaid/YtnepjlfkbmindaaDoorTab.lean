/- The two tables of blanks and of ends of lines as the program's text lays them: what they give the walks; the tests on single bytes. Condition: the tables' cells. -/
import Derived.Test.YtnepjlfkbmindaaDoorBlank
import Derived.Test.YtnepjlfkbmindaaDoorRows
import Derived.Lib.LaidTab
namespace Go.Proofs.YtnepjlfkbmindaaDoor
open Go.RowKit
set_option linter.unusedVariables false

/-- An array of bools that reads as a list of bools holds them, cell for cell. -/
theorem cells_of_btab {H : Type} {enc : TypeId × Value → H} {P : Program} {w : World} {base : Nat} {sp : Nat → Bool} {held : Bool} {fuel : Nat} {t e : TypeId} {n : Nat} {cs : List Value} {zs : List Bool} {p : List MemPlace}
    (ht : P.underlying t = some (.array n e)) (he : P.underlying e = some .bool) (hce : P.cellsOf e = 1) (hct : P.cellsOf t = n)
    (h : DataW.trod enc P w base sp held fuel t cs = some (.agg (zs.map fun z => .lit (.bool z)), p)) : cs = zs.map Value.bool := by
  cases fuel with
  | zero => simp [DataW.trod] at h
  | succ fuel =>
    simp only [DataW.trod, ht, hce, hct, Nat.mul_one] at h
    split at h
    · rename_i hl
      obtain ⟨xs, hm, hx⟩ := Option.map_eq_some_iff.1 h
      have hxs : xs.map (·.1) = zs.map fun z => (DataW.lit (.bool z) : DataW H) := by
        have := congrArg Prod.fst hx
        simpa using this
      have hxl : xs.length = n := by simpa using Lib.mapM_length hm
      have hzl : zs.length = n := by
        have := congrArg List.length hxs
        simp at this
        omega
      apply List.ext_getElem?
      intro i
      by_cases hi : i < n
      · obtain ⟨b, hb, hf⟩ := Lib.mapM_at hm i i (by simp [hi])
        obtain ⟨z, hc, rfl⟩ := DataW.trod_bool he hf
        have h1 : cs[i]? = some (.bool z) := by
          have := congrArg (·[0]?) hc
          simpa [List.getElem?_take, List.getElem?_drop] using this
        have h2 : (xs.map (·.1))[i]? = some (DataW.lit (.bool z) : DataW H) := by simp [hb]
        rw [hxs] at h2
        simp only [List.getElem?_map, Option.map_eq_some_iff, DataW.lit.injEq, Lit.bool.injEq] at h2
        obtain ⟨z', hz', rfl⟩ := h2
        simp [h1, hz']
      · rw [List.getElem?_eq_none (by omega), List.getElem?_eq_none (by simp; omega)]
    · cases h

/-- The cells of block G tell of each byte whether f. -/
def TabOf (G : Nat) (f : UInt8 → Bool) (w : World) : Prop := ∀ c : UInt8, w.cell? ⟨G, c.toNat, none⟩ = some (.bool (f c))
theorem TabOf.below {G : Nat} {f : UInt8 → Bool} {w w' : World} (h : TabOf G f w) (hb : Below w.heap.size w w') : TabOf G f w' := fun c => (hb.cell (block_lt_of_cell (h c))).trans (h c)
theorem TabOf.drewN {G : Nat} {f : UInt8 → Bool} {w : World} (h : TabOf G f w) (n : Nat) : TabOf G f (w.drewN n) := h
theorem TabOf.alloc {G : Nat} {f : UInt8 → Bool} {w : World} (h : TabOf G f w) (o : Obj) : TabOf G f (w.alloc o) := fun c => (World.cell?_alloc_lt w o _ (block_lt_of_cell (h c))).trans (h c)
theorem TabOf.grown {G : Nat} {f : UInt8 → Bool} {w w' : World} {row : Option Nat} (h : TabOf G f w) (hg : w.grownBy w' row) (hne : row ≠ some G) : TabOf G f w' := fun c => hg.cell (h c) (fun e => hne e.symm)
theorem TabOf.lt {G : Nat} {f : UInt8 → Bool} {w : World} (h : TabOf G f w) : G < w.heap.size := block_lt_of_cell (h 0)
theorem tabOf_of {G : Nat} {P : Program} {w : World} {name : String} {cs : Array Value} {zs : List Bool} {f : UInt8 → Bool} (hg : P.globalNamed name = some G) (hv : w.var? P name = some cs) (hcs : cs.toList = zs.map Value.bool)
    (hz : ((List.range 256).all fun i => zs[i]? == some (f (UInt8.ofNat i))) = true) : TabOf G f w := fun c => by
  have h1 := World.var?_cell hg hv c.toNat
  rw [h1, ← Array.getElem?_toList, hcs, List.getElem?_map]
  have h2 := List.all_eq_true.1 hz c.toNat (by simp; exact c.toNat_lt)
  rw [beq_iff_eq] at h2
  rw [h2]
  simp

abbrev WsTab (w : World) : Prop := TabOf 0 isBl w
abbrev NlTab (w : World) : Prop := TabOf 1 isNl w

/-- The table of a predicate. -/
def tabList (f : UInt8 → Bool) : List Bool := (List.range 256).map fun i => f (UInt8.ofNat i)
theorem tabOf_list {G : Nat} {H : Type} {enc : TypeId × Value → H} {P : Program} {w : World} {name : String} {cs : Array Value} {f : UInt8 → Bool} {base : Nat} {sp : Nat → Bool} {held : Bool} {fuel : Nat} {t e : TypeId} {p : List MemPlace}
    (hg : P.globalNamed name = some G) (hv : w.var? P name = some cs) (ht : P.underlying t = some (.array 256 e)) (he : P.underlying e = some .bool) (hce : P.cellsOf e = 1) (hct : P.cellsOf t = 256)
    (h : DataW.trod enc P w base sp held fuel t cs.toList = some (.agg ((tabList f).map fun z => .lit (.bool z)), p)) : TabOf G f w :=
  tabOf_of hg hv (cells_of_btab ht he hce hct h) (by
    rw [List.all_eq_true]
    intro i hi
    simp at hi
    simp [tabList, hi])

theorem isWs_any (c : UInt8) (w : World) (ht : WsTab w) :
    Calls Tryd.prog 21 #[.int .u8 (c.toNat : Int)] w fun e w' => e = .returned (.bool (isBl c)) ∧ w = w' := by
  have hc := ht c
  have h256 := c.toNat_lt
  go_enter Tryd.func21, Tryd.ntmps21
  go_wp2
  go_ret
  exact ⟨rfl, rfl⟩
theorem isBlS_any (c : UInt8) (w : World) :
    Calls Tryd.prog 15 #[.int .u8 (c.toNat : Int)] w fun e w' => e = .returned (.bool (isBl c)) ∧ w = w' := by
  have h256 := c.toNat_lt
  go_enter Tryd.func15, Tryd.ntmps15
  go_wp2
  all_goals go_ret
  all_goals first | exact ⟨ret_bool (isBl_true (by omega)).symm, rfl⟩ | exact ⟨ret_bool (isBl_beq c), rfl⟩
theorem isNl_any (c : UInt8) (w : World) (ht : NlTab w) :
    Calls Tryd.prog 22 #[.int .u8 (c.toNat : Int)] w fun e w' => e = .returned (.bool (isNl c)) ∧ w = w' := by
  have hc := ht c
  have h256 := c.toNat_lt
  go_enter Tryd.func22, Tryd.ntmps22
  go_wp2
  go_ret
  exact ⟨rfl, rfl⟩
end Go.Proofs.YtnepjlfkbmindaaDoor
