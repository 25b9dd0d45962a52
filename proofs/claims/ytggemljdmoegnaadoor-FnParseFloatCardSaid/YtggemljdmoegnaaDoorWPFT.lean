/- The tables of powers in a world where the variables of 'laws.FnParseFloat' lie as laid. -/
import Derived.Test.YtggemljdmoegnaaDoorWPFlo
import Derived.Test.YtggemljdmoegnaaDoorFTab
namespace Go.Proofs.YtggemljdmoegnaaDoor
open Go.RowKit
set_option linter.unusedVariables false

theorem z10_ok2 : ((List.range 23).all fun i => match z10[i]? with | some z => okW z (10 ^ i) | none => false) = true := by decide +kernel
theorem z10_okZ : ((List.range 23).all fun i => match z10[i]? with | some z => okZ z | none => false) = true := by decide +kernel
theorem pz_of {G n : Nat} {P : Program} {w : World} {name : String} {cs : Array Value} {zs : List Nat} (hg : P.globalNamed name = some G) (hv : w.var? P name = some cs) (hcs : cs.toList = zs.map (Value.float .f64))
    (hz : ((List.range n).all fun i => match zs[i]? with | some z => okZ z | none => false) = true) : PZ G n w := fun i hi => by
  have h1 := World.var?_cell hg hv i
  have h2 := List.all_eq_true.1 hz i (by simpa using hi)
  split at h2
  · rename_i z hzz
    refine ⟨z, ?_, h2⟩
    rw [h1, ← Array.getElem?_toList, hcs, List.getElem?_map, hzz]
    rfl
  · cases h2
theorem cell_of {G i z : Nat} {P : Program} {w : World} {name : String} {cs : Array Value} {zs : List Nat} (hg : P.globalNamed name = some G) (hv : w.var? P name = some cs) (hcs : cs.toList = zs.map (Value.float .f64)) (hz : zs[i]? = some z) : w.cell? ⟨G, i, none⟩ = some (.float .f64 z) := by
  rw [World.var?_cell hg hv i, ← Array.getElem?_toList, hcs, List.getElem?_map, hz]
  rfl
theorem gT : Tryd.prog.globalNamed "math.pow10tab" = some 3 := by kernel_rfl
theorem tT : (Tryd.prog.globals[3]?).map (·.type) = some 47 := by kernel_rfl
theorem gP : Tryd.prog.globalNamed "math.pow10postab32" = some 2 := by kernel_rfl
theorem tP : (Tryd.prog.globals[2]?).map (·.type) = some 45 := by kernel_rfl
theorem gN : Tryd.prog.globalNamed "math.pow10negtab32" = some 4 := by kernel_rfl
theorem tN : (Tryd.prog.globals[4]?).map (·.type) = some 48 := by kernel_rfl
def zT : List Nat := [4607182418800017408, 4621819117588971520, 4636737291354636288, 4652007308841189376, 4666723172467343360, 4681608360884174848, 4696837146684686336, 4711630319722168320, 4726483295884279808, 4741671816366391296, 4756540486875873280, 4771362005757984768, 4786511204640096256, 4801453603149578240, 4816244402031689728, 4831355200913801216, 4846369599423283200, 4861130398305394688, 4876203697187506176, 4891288408196988160, 4906019910204099648, 4921056587992461136, 4936209963552724370, 4950912855330343670, 4965913770331839924, 4981134201117475473, 4995809153217856309, 5010775143622804482, 5026061058026967681, 5040708725286295329, 5055640609639927018, 5070927765361438756]
theorem zT_d {H : Type} : (Rows.laid_math_pow10tab : DataW H) = .agg (zT.map fun z => .lit (.float .f64 z)) := by kernel_rfl
def zP : List Nat := [4607182418800017408, 5085611494797045271, 5564284217833028085, 6043257259031049059, 6521906365687930162, 7000496887210966211, 7479368607221621995, 7958223736346011545, 8436737289693151036, 8915514139102383430]
theorem zP_d {H : Type} : (Rows.laid_math_pow10postab32 : DataW H) = .agg (zP.map fun z => .lit (.float .f64 z)) := by kernel_rfl
def zN : List Nat := [4607182418800017408, 4128101167230658355, 3649340653511681853, 3170840353250979498, 2691949749288605597, 2213095475689254516, 1734519108376626298, 1255832114822727210, 776877706278891331, 298220099847875929, 2024]
theorem zN_d {H : Type} : (Rows.laid_math_pow10negtab32 : DataW H) = .agg (zN.map fun z => .lit (.float .f64 z)) := by kernel_rfl
theorem zT_ok : ((List.range 32).all fun i => match zT[i]? with | some z => okW z (10 ^ i) | none => false) = true := by decide +kernel
theorem fnParseFloat_tabs {W : World} (h : laidMetH Tryd.prog Rows.fnParseFloatRow.laid W) : Tabs W := by
  rw [MakeChecks.laidMetH_plain _ _ _ (by kernel_rfl)] at h
  obtain ⟨ps, ⟨g1, t1, cs1, f1, p1, q1, hg1, ht1, hv1, hd1, ⟨g2, t2, cs2, f2, p2, q2, hg2, ht2, hv2, hd2, ⟨g3, t3, cs3, f3, p3, q3, hg3, ht3, hv3, hd3, ⟨g0, t0, cs0, f0, p0, q0, hg0, ht0, hv0, hd0, _, _⟩, _⟩, _⟩, _⟩, _, _⟩ := h
  obtain rfl := Option.some.inj (gT.symm.trans hg1)
  obtain rfl := Option.some.inj (tT.symm.trans ht1)
  obtain rfl := Option.some.inj (gP.symm.trans hg2)
  obtain rfl := Option.some.inj (tP.symm.trans ht2)
  obtain rfl := Option.some.inj (gN.symm.trans hg3)
  obtain rfl := Option.some.inj (tN.symm.trans ht3)
  obtain rfl := Option.some.inj (g10.symm.trans hg0)
  obtain rfl := Option.some.inj (t10.symm.trans ht0)
  rw [zT_d] at hd1
  rw [zP_d] at hd2
  rw [zN_d] at hd3
  rw [d10] at hd0
  have c1 := cells_of_ftab Tryd.underlying47 Tryd.underlying26 (by kernel_rfl) (by kernel_rfl) hd1
  have c2 := cells_of_ftab Tryd.underlying45 Tryd.underlying26 (by kernel_rfl) (by kernel_rfl) hd2
  have c3 := cells_of_ftab Tryd.underlying48 Tryd.underlying26 (by kernel_rfl) (by kernel_rfl) hd3
  have c0 := cells_of_ftab Tryd.underlying40 Tryd.underlying26 (by kernel_rfl) (by kernel_rfl) hd0
  exact ⟨p10_of g10 hv0 c0 z10_ok2, pz_of g10 hv0 c0 z10_okZ, ⟨p10_of gT hv1 c1 zT_ok, cell_of gP hv2 c2 rfl, cell_of gN hv3 c3 rfl, cell_of gN hv3 c3 rfl⟩⟩
end Go.Proofs.YtggemljdmoegnaaDoor
