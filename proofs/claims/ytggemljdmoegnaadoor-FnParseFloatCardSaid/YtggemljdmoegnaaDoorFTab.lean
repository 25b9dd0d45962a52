/- Tables of powers of ten as the program's text lays them. Condition: the tables' cells. -/
import Derived.Test.YtggemljdmoegnaaDoorRows
import Derived.Test.YtggemljdmoegnaaDoorPDec
import Derived.Lib.LaidTab
import Derived.LaidMore
namespace Go.Proofs.YtggemljdmoegnaaDoor
open Go.RowKit
set_option linter.unusedVariables false

theorem trod_f64 {H : Type} {enc : TypeId × Value → H} {P : Program} {w : World} {base : Nat} {sp : Nat → Bool} {held : Bool} {fuel : Nat} {e : TypeId} {cs : List Value} {x : DataW H × List MemPlace} (he : P.underlying e = some (.float .f64))
    (h : DataW.trod enc P w base sp held fuel e cs = some x) : ∃ z, cs = [.float .f64 z] ∧ x = (.lit (.float .f64 z), []) := by
  cases fuel with
  | zero => simp [DataW.trod] at h
  | succ n =>
    unfold DataW.trod at h
    rw [he] at h
    split at h <;> simp_all
/-- An array of floats that reads as a list of floats holds them, cell for cell. -/
theorem cells_of_ftab {H : Type} {enc : TypeId × Value → H} {P : Program} {w : World} {base : Nat} {sp : Nat → Bool} {held : Bool} {fuel : Nat} {t e : TypeId} {n : Nat} {cs : List Value} {zs : List Nat} {p : List MemPlace}
    (ht : P.underlying t = some (.array n e)) (he : P.underlying e = some (.float .f64)) (hce : P.cellsOf e = 1) (hct : P.cellsOf t = n)
    (h : DataW.trod enc P w base sp held fuel t cs = some (.agg (zs.map fun z => .lit (.float .f64 z)), p)) : cs = zs.map (Value.float .f64) := by
  cases fuel with
  | zero => simp [DataW.trod] at h
  | succ fuel =>
    simp only [DataW.trod, ht, hce, hct, Nat.mul_one] at h
    split at h
    · rename_i hl
      obtain ⟨xs, hm, hx⟩ := Option.map_eq_some_iff.1 h
      have hxs : xs.map (·.1) = zs.map fun z => (DataW.lit (.float .f64 z) : DataW H) := by
        have := congrArg Prod.fst hx
        simpa using this
      have hxl : xs.length = n := by simpa using Lib.mapM_length hm
      have hzl : zs.length = n := by
        have := congrArg List.length hxs
        simp at this
        omega
      apply List.ext_getElem?
      intro i
      by_cases hi : i < n
      · obtain ⟨b, hb, hf⟩ := Lib.mapM_at hm i i (by simp [hi])
        obtain ⟨z, hc, rfl⟩ := trod_f64 he hf
        have h1 : cs[i]? = some (.float .f64 z) := by
          have := congrArg (·[0]?) hc
          simpa [List.getElem?_take, List.getElem?_drop] using this
        have h2 : (xs.map (·.1))[i]? = some (DataW.lit (.float .f64 z) : DataW H) := by simp [hb]
        rw [hxs] at h2
        simp only [List.getElem?_map, Option.map_eq_some_iff, DataW.lit.injEq, Lit.float.injEq, true_and] at h2
        obtain ⟨z', hz', rfl⟩ := h2
        simp [h1, hz']
      · rw [List.getElem?_eq_none (by omega), List.getElem?_eq_none (by simp; omega)]
    · cases h
theorem p10_of {G n : Nat} {P : Program} {w : World} {name : String} {cs : Array Value} {zs : List Nat} (hg : P.globalNamed name = some G) (hv : w.var? P name = some cs) (hcs : cs.toList = zs.map (Value.float .f64))
    (hz : ((List.range n).all fun i => match zs[i]? with | some z => okW z (10 ^ i) | none => false) = true) : P10 G n w := fun i hi => by
  have h1 := World.var?_cell hg hv i
  have h2 := List.all_eq_true.1 hz i (by simpa using hi)
  split at h2
  · rename_i z hzz
    refine ⟨z, ?_, okW_ap h2⟩
    rw [h1, ← Array.getElem?_toList, hcs, List.getElem?_map, hzz]
    rfl
  · cases h2
theorem g10 : Tryd.prog.globalNamed "loop.example/pub-g01476/pub/tdstrconv.float64pow10" = some 0 := by kernel_rfl
theorem t10 : (Tryd.prog.globals[0]?).map (·.type) = some 40 := by kernel_rfl
/-- The powers of ten. -/
def z10 : List Nat := [4607182418800017408, 4621819117588971520, 4636737291354636288, 4652007308841189376, 4666723172467343360, 4681608360884174848, 4696837146684686336, 4711630319722168320, 4726483295884279808, 4741671816366391296, 4756540486875873280, 4771362005757984768, 4786511204640096256, 4801453603149578240, 4816244402031689728, 4831355200913801216, 4846369599423283200, 4861130398305394688, 4876203697187506176, 4891288408196988160, 4906019910204099648, 4921056587992461136, 4936209963552724370]
theorem d10 {H : Type} : (Rows.laid_loop_example_pub_g01476_pub_tdstrconv_float64pow10 : DataW H) = .agg (z10.map fun z => .lit (.float .f64 z)) := by kernel_rfl
end Go.Proofs.YtggemljdmoegnaaDoor
