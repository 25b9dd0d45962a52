/- io.EOF as the program's text lays it: a pointer that may be compared. -/
import Derived.Test.YtngmdgefecebmaaDoorRows
import Derived.Test.YtngmdgefecebmaaDoorLx
import Derived.LaidMore
import Derived.LaidLaws
namespace Go.Proofs.YtngmdgefecebmaaDoor
open Go.RowKit
set_option linter.unusedVariables false

theorem gEof : Tryd.prog.globalNamed "io.EOF" = some 0 := by kernel_rfl
theorem tEof : (Tryd.prog.globals[0]?).map (·.type) = some 42 := by kernel_rfl
theorem starES : "*" ++ "errors.errorString" = "*errors.errorString" := by decide
theorem rowES (u : TypeId) (h : Tryd.prog.typeName? 3 u = some "*errors.errorString") : u = 61 :=
  typeName_ptr_named (nm := "errors.errorString") (by rw [starES]; kernel_rfl) (by kernel_rfl) (by decide) u (by rw [starES]; exact h)
theorem infoES : ∃ i, Tryd.prog.info? 61 = some i ∧ i.comparable = true := by
  have h : (Tryd.prog.info? 61).map (·.comparable) = some true := by kernel_rfl
  obtain ⟨i, hi, hc⟩ := Option.map_eq_some_iff.1 h
  exact ⟨i, hi, hc⟩
theorem infoE : ∃ j, Tryd.prog.info? 77 = some j := Option.isSome_iff_exists.1 (by kernel_rfl)
theorem eof_of {W : World} (h : laidMetH Tryd.prog [("io.EOF", Rows.laid_io_EOF)] W) : EofIs W := by
  rw [MakeChecks.laidMetH_plain _ _ _ (by kernel_rfl)] at h
  obtain ⟨ps, ⟨g0, t0, cs0, f0, p0, q0, hg0, ht0, hv0, hd0, _, e0⟩, hnd, hrows⟩ := h
  obtain rfl := Option.some.inj (gEof.symm.trans hg0)
  obtain rfl := Option.some.inj (tEof.symm.trans ht0)
  subst e0
  obtain ⟨l0⟩ := cs0
  have ok0 : ∀ u v, l0 = [.iface u v] → Value.okWide Tryd.prog W .any 0 u v := fun u v e => by
    subst e
    exact (hrows 0 0 (by simp [MemPlace.row])).2 u v (by simpa using World.var?_cell hg0 hv0 0)
  obtain ⟨a0, s0, rfl, _⟩ := errorString_of_trod Tryd.underlying42 rowES Tryd.underlying61 Tryd.underlying77 rfl rfl Tryd.underlying9 (by kernel_rfl) (by kernel_rfl) hd0 ok0
  have hc := World.var?_cell gEof hv0 0
  obtain ⟨i, hi, hcmp⟩ := infoES
  obtain ⟨j, hj⟩ := infoE
  refine ⟨61, 77, i, j, a0, Tryd.underlying61, hi, hcmp, hj, ?_⟩
  unfold Eof
  simpa using hc
theorem fnCSSJoined_eof {W : World} (h : laidMetH Tryd.prog Rows.fnCSSJoinedRow.laid W) : EofIs W := eof_of h
end Go.Proofs.YtngmdgefecebmaaDoor
