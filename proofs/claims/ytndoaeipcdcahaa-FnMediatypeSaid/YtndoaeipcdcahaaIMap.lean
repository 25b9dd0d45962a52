/- A row of strings behind one more string; a map's keys gathered. Conditions: lengths below 2^31. -/
import Derived.Test.YtndoaeipcdcahaaMap
import Derived.Test.YtndoaeipcdcahaaRow
import Derived.Maps.RangeWalk
namespace Go.Proofs.Ytndoaeipcdcahaa
open Go.RowKit Go.Maps
set_option linter.unusedVariables false
set_option linter.unusedSimpArgs false

theorem str_info : (Try.prog.info? 9).map (fun i => (i.zero, i.size, i.bytes)) = some (some (.string ⟨#[]⟩), 1, 16) := by kernel_rfl
/-- One string behind a row of strings. -/
theorem strs_app {w : World} {base n cap : Nat} {A : Option Addr} {xs : List (List UInt8)} (h : w.ownsRow base 9 1 (.slice A n cap) n (xs.map sv)) (hb : base ≤ w.heap.size) (x : List UInt8) (hn : n ≤ 100) :
    ∃ A' c' w', (Builtin.append_ #[26, 26] 26 #[.slice A n cap, .slice (some ⟨w.heap.size, 0, none⟩) 1 1]).run Try.prog (w.alloc (.cells #[sv x] 9)) = .ok (.slice A' (n + 1) c') w' ∧
      w'.ownsRow base 9 1 (.slice A' (n + 1) c') (n + 1) ((xs ++ [x]).map sv) ∧ w.grownBy w' (blk A) ∧ (blk A' = blk A ∨ ∃ k, blk A' = some k ∧ w.heap.size ≤ k) := by
  obtain ⟨A', c', w', hrun, ho, hg, hat⟩ := row_app (P := Try.prog) 26 9 Try.underlying26 str_info rfl (by omega) (h.alloc (.cells #[sv x] 9)) (by simp; omega) w.heap.size 1 (by omega) (news := [sv x]) rfl
    (fun j u hj => by rw [World.cell?_alloc_mark]; simpa using hj) (fun u hu => by simp at hu; subst hu; rfl) (by omega) (by omega)
  refine ⟨A', c', w', hrun, by rw [List.map_append]; exact ho, (World.grownBy_alloc w _ _).trans hg, ?_⟩
  rcases hat with e | e
  · exact .inl e
  · exact .inr ⟨_, e, by simp⟩
/-- What was gathered from a map with these entries. -/
theorem gathered {D : DataW Unit} {ps : List Ent} {left : Lit → Bool} {ss : List (List UInt8)} (hD : DataOf D ps) (hC : Collected D left ss) (hl : ∀ kl, left kl = false) (hnd : (ps.map (·.1)).Nodup) : ss.Perm (ps.map (·.1)) := by
  refine (List.perm_ext_iff_of_nodup hC.1 hnd).2 fun x => ?_
  rw [hC.2 x, hD.has x, hl]
  simp
end Go.Proofs.Ytndoaeipcdcahaa
