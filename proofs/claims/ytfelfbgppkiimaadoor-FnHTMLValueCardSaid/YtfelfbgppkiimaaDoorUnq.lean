/- The reference's taking away of quotation marks. Condition: the text has them at both ends, and lies within its capacity. -/
import Derived.Test.YtfelfbgppkiimaaDoorInpl
import Derived.Deep.RegionLaw
namespace Go.Proofs.YtfelfbgppkiimaaDoor
open Go.RowKit
set_option linter.unusedVariables false

/-- What is returned. -/
def UqRet (q : Int) (m : List UInt8) (w : World) (e : Ending) (w' : World) : Prop := ∃ A1 c1 k, e = .returned (.tuple #[.slice A1 m.length c1, .int .u8 q]) ∧ BS w A1 m ∧ m.length ≤ c1 ∧ w' = w.drewN k
set_option maxHeartbeats 1000000 in
theorem uq_34 (A : Option Addr) (m L : List UInt8) (n c : Nat) (w : World) (hL : [34] ++ m ++ [34] = L) (hn : L.length = n) (h : BS w A L) (h1 : n ≤ 2147483647) (hc : n ≤ c) :
    Calls Tryd.prog 7 #[.slice A n c] w (UqRet 34 m w) := by
  have hml : m.length + 2 = n := by rw [← hn, ← hL]; simp
  obtain ⟨b, o, rfl, _, _⟩ := h.form (by omega)
  have at0 : L[0]? = some 34 := by rw [← hL]; simp
  have atN : L[n - 1]? = some 34 := by rw [← hL, show n - 1 = ([34] ++ m).length by simp; omega, List.getElem?_append_right (Nat.le_refl _), Nat.sub_self]; rfl
  obtain ⟨b1, o1, e1, cell0⟩ := h.at_ at0
  simp only [Option.some.injEq, Addr.mk.injEq, and_true] at e1
  obtain ⟨rfl, rfl⟩ := e1
  obtain ⟨b1, o1, e1, cellN⟩ := h.at_ atN
  simp only [Option.some.injEq, Addr.mk.injEq, and_true] at e1
  obtain ⟨rfl, rfl⟩ := e1
  rw [Nat.add_zero] at cell0
  simp only [show ((34 : UInt8).toNat : Int) = 34 from rfl] at cell0 cellN
  have Hbs := hide (show BS w (some ⟨b, o + 1, none⟩) m from by
    have := (h.cut rfl 1).take m.length
    rw [← hL] at this
    simpa using this)
  have b2 : decide (2 ≤ (n : Int)) = true := by rw [decide_eq_true_eq]; omega
  have Hml := hide hml
  clear hL hn at0 atN h
  have s1 : IntKind.i64.wrap ((n : Int) - 1) = (n : Int) - 1 := IntWalk.i64_in _ (by omega)
  have s2 : 0 ≤ (n : Int) - 1 := by omega
  have s3 : ((n : Int) - 1).toNat = n - 1 := by omega
  have s4 : (n : Int) - 1 < (n : Int) := by omega
  have s5 : (1 : Int) ≤ (n : Int) - 1 := by omega
  have s6 : (n : Int) - 1 ≤ (c : Int) := by omega
  have s7 : ¬ c = 1 := by omega
  have s8 : 0 < (n : Int) := by omega
  have S := hide (And.intro s1 (And.intro s2 (And.intro s3 (And.intro s4 (And.intro s5 (And.intro s6 (And.intro s7 s8)))))))
  clear s1 s2 s3 s4 s5 s6 s7 s8 hml
  go_enter Tryd.func7, Tryd.ntmps7
  go_wp2
  obtain ⟨s1, s2, s3, s4, s5, s6, s7, s8⟩ := S.out
  go_quiet (fail)
  go_wp2
  go_quiet (fail)
  clear s1 s2 s3 s4 s5 s6 s7 s8
  go_wp2
  go_ret2
  refine ⟨some ⟨b, o + 1, none⟩, c - 1, _, ?_, Hbs.out, by have := Hml.out; omega, World.drewN_drewN _ _ _⟩
  rw [show m.length = n - 1 - 1 by have := Hml.out; omega]
  rfl
set_option maxHeartbeats 1000000 in
theorem uq_39 (A : Option Addr) (m L : List UInt8) (n c : Nat) (w : World) (hL : [39] ++ m ++ [39] = L) (hn : L.length = n) (h : BS w A L) (h1 : n ≤ 2147483647) (hc : n ≤ c) :
    Calls Tryd.prog 7 #[.slice A n c] w (UqRet 39 m w) := by
  have hml : m.length + 2 = n := by rw [← hn, ← hL]; simp
  obtain ⟨b, o, rfl, _, _⟩ := h.form (by omega)
  have at0 : L[0]? = some 39 := by rw [← hL]; simp
  have atN : L[n - 1]? = some 39 := by rw [← hL, show n - 1 = ([39] ++ m).length by simp; omega, List.getElem?_append_right (Nat.le_refl _), Nat.sub_self]; rfl
  obtain ⟨b1, o1, e1, cell0⟩ := h.at_ at0
  simp only [Option.some.injEq, Addr.mk.injEq, and_true] at e1
  obtain ⟨rfl, rfl⟩ := e1
  obtain ⟨b1, o1, e1, cellN⟩ := h.at_ atN
  simp only [Option.some.injEq, Addr.mk.injEq, and_true] at e1
  obtain ⟨rfl, rfl⟩ := e1
  rw [Nat.add_zero] at cell0
  simp only [show ((39 : UInt8).toNat : Int) = 39 from rfl] at cell0 cellN
  have Hbs := hide (show BS w (some ⟨b, o + 1, none⟩) m from by
    have := (h.cut rfl 1).take m.length
    rw [← hL] at this
    simpa using this)
  have b2 : decide (2 ≤ (n : Int)) = true := by rw [decide_eq_true_eq]; omega
  have Hml := hide hml
  clear hL hn at0 atN h
  have s1 : IntKind.i64.wrap ((n : Int) - 1) = (n : Int) - 1 := IntWalk.i64_in _ (by omega)
  have s2 : 0 ≤ (n : Int) - 1 := by omega
  have s3 : ((n : Int) - 1).toNat = n - 1 := by omega
  have s4 : (n : Int) - 1 < (n : Int) := by omega
  have s5 : (1 : Int) ≤ (n : Int) - 1 := by omega
  have s6 : (n : Int) - 1 ≤ (c : Int) := by omega
  have s7 : ¬ c = 1 := by omega
  have s8 : 0 < (n : Int) := by omega
  have S := hide (And.intro s1 (And.intro s2 (And.intro s3 (And.intro s4 (And.intro s5 (And.intro s6 (And.intro s7 s8)))))))
  clear s1 s2 s3 s4 s5 s6 s7 s8 hml
  go_enter Tryd.func7, Tryd.ntmps7
  go_wp2
  obtain ⟨s1, s2, s3, s4, s5, s6, s7, s8⟩ := S.out
  go_quiet (fail)
  go_wp2
  go_quiet (fail)
  clear s1 s2 s3 s4 s5 s6 s7 s8
  go_wp2
  go_ret2
  refine ⟨some ⟨b, o + 1, none⟩, c - 1, _, ?_, Hbs.out, by have := Hml.out; omega, World.drewN_drewN _ _ _⟩
  rw [show m.length = n - 1 - 1 by have := Hml.out; omega]
  rfl
end Go.Proofs.YtfelfbgppkiimaaDoor
