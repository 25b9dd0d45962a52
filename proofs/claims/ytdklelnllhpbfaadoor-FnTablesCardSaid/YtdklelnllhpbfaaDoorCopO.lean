/- The builtin copy into a row of the call's own that has more room than it has bytes. Conditions: it fits. -/
import Derived.Test.YtdklelnllhpbfaaDoorInpl
namespace Go.Proofs.YtdklelnllhpbfaaDoor
open Go.RowKit
set_option linter.unusedVariables false

theorem take_mid {α : Type} (C M : List α) (n o : Nat) (h : o + M.length ≤ n) (hn : n ≤ C.length) : (C.take o ++ M ++ C.drop (o + M.length)).take n = (C.take n).take o ++ M ++ (C.take n).drop (o + M.length) := by
  have e : (C.take o ++ M).length = o + M.length := by simp; omega
  rw [List.take_append, e, List.take_of_length_le (by omega), List.take_take, Nat.min_eq_left (by omega), List.drop_take]
theorem run_copyO {w : World} {base n c g : Nat} {B : Option Addr} {l m : List UInt8} (own : OwnB w base (some ⟨g, 0, none⟩) n c l) (src : BS w B m) (o dLen dCap sLen sCap k : Nat) (hs : m.length = sLen) (hk : k = min sLen dLen) (hfit : o + k ≤ n) :
    ∃ w', (Builtin.copy_ #[22, 22] 3 #[.slice (some ⟨g, o, none⟩) dLen dCap, .slice B sLen sCap]).run Tryd.prog w = .ok (.int .i64 (k : Int)) w' ∧
      OwnB w' base (some ⟨g, 0, none⟩) n c (l.take o ++ m.take k ++ l.drop (o + k)) ∧ w.grownBy w' (some g) ∧ w'.heap.size = w.heap.size := by
  subst hs
  have hu := Tryd.underlying22
  have hsz : (Tryd.prog.info? 5).map (·.size) = some 1 := by kernel_rfl
  rcases Nat.eq_zero_or_pos k with h0 | h0
  · subst h0
    have hm : Nat.min m.length dLen = 0 := by show min m.length dLen = 0; omega
    exact ⟨w, run_copy_none w 22 22 3 5 _ _ dLen dCap m.length sCap hu hsz hm, by simpa using own, World.grownBy.refl w _, rfl⟩
  · have hkl : k ≤ m.length := by omega
    obtain ⟨b, o', rfl, _, hc⟩ := src.form (by omega)
    obtain ⟨hl, hlen, hh⟩ := own
    rcases hh with ⟨e, _⟩ | ⟨g', cap, cur, e, hg, hw, h1, h2, h3, h4⟩
    · cases e
    injection e with e1 e2 e3
    cases e1
    subst e3
    have hn : ((m.take k).map bv).length = Nat.min m.length dLen := by show _ = min m.length dLen; simp; omega
    have hcl : ((m.take k).map bv).length = k := by simp; omega
    have hrun := run_copy_row (P := Tryd.prog) w 22 22 3 5 g o dLen dCap ⟨b, o', none⟩ m.length sCap cur 5 ((m.take k).map bv) hu hsz hw hn
      (fun j v hj => by
        obtain ⟨hj1, hj2⟩ := List.getElem?_eq_some_iff.1 hj
        have hj3 : j < m.length := by simp at hj1; omega
        have := hc j hj3
        have e : (⟨b, o', none⟩ : Addr).add j = ⟨b, o' + j, none⟩ := by
          unfold Addr.add
          split
          · rename_i h0; subst h0; rfl
          · rfl
        rw [e, this, ← hj2]
        simp)
      (by rw [hcl]; omega) (fun v hv => by obtain ⟨x, _, rfl⟩ := List.mem_map.1 hv; rfl)
    have e1 : goInt ((m.take k).map bv).length = .int .i64 (k : Int) := by rw [hcl]; rfl
    rw [e1, hcl] at hrun
    have hcur : cur.toList.length = c := by simp; omega
    refine ⟨_, hrun, ⟨by simp; omega, by simp; omega, .inr ⟨g, c, (cur.toList.take o ++ (m.take k).map bv ++ cur.toList.drop (o + k)).toArray, rfl, hg, ?_, h1, h2, ?_, ?_⟩⟩, ⟨rfl, rfl, rfl, by simp [World.setRow], fun i _ hne => setRow_other w g i _ (fun e => hne (by rw [e]))⟩, by simp [World.setRow]⟩
    · simp only [World.setRow, Array.getElem?_modify, hw]
      simp
    · simp; omega
    · rw [Nat.mul_one] at h4 ⊢
      have e := take_mid cur.toList ((m.take k).map bv) n o (by rw [hcl]; omega) (by omega)
      rw [hcl, h4] at e
      simpa using e
end Go.Proofs.YtdklelnllhpbfaaDoor
