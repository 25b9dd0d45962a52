/- 'laws.FnMediatype' returns true for every input, and whatever was in memory reads as before. Condition: none. -/
import Derived.Test.YtndoaeipcdcahaaRows
import Derived.Test.YtndoaeipcdcahaaWMed
namespace Go.Proofs.Ytndoaeipcdcahaa.fnMediatype
open Go.ChangeShapes Go.WideShapes Go.ChangeAt Go.RowKit

theorem own : ownKnob Try.prog.godebug = none := by kernel_rfl
theorem laidOut : laidOutB Try.prog = true := by kernel_rfl

set_option maxRecDepth 100000 in
theorem lifted (os : Os) (started : os.Started) (H : Type) (enc : TypeId × Value → H) :
    ReturnsInHanded {} Try.checked os 3 .any (Rows.fnMediatypeSpec.pre6 enc Try.prog Try.f3 Rows.fnMediatypeRow.domain false) (Rows.fnMediatypeSpec.post enc Try.prog Try.f3 false true false false) := by
  refine returnsInHanded_of_change (C := Try.checked) own started (by kernel_rfl) Try.func3
    (ChangeSpec.witness6 (enc := enc) (C := Try.checked) false ⟨#[], #[.slice none 0 0, .slice none 0 0, .slice none 0 0, .slice none 0 0, .int .i64 0], []⟩ 8 (by kernel_rfl) (by kernel_rfl) (by kernel_rfl) (by kernel_rfl)) ?_
  intro W base args ds gs before hval0 hW hcnd _
  have hval : ∀ (j : Nat) t v, Try.f3.params[j]? = some t → args[j]? = some v → Value.okWide Try.prog W .any base t v := hval0
  have hW' := hW
  obtain ⟨p, q, hA0, hV, rfl, hfz, hnd⟩ := hW
  have hA : DataW.TrodAll enc Try.prog W 0 (fun _ => true) true Try.f3.params.toList args.toList ds p := hA0
  rw [Try.params3] at hA hval
  obtain ⟨v0, vs0, d0, ds0, p0, q0, hargs, rfl, rfl, h0, r0⟩ := trodAll_cons hA
  obtain ⟨v1, vs1, d1, ds1, p1, q1, rfl, rfl, rfl, h1, r1⟩ := trodAll_cons r0
  obtain ⟨v2, vs2, d2, ds2, p2, q2, rfl, rfl, rfl, h2, r2⟩ := trodAll_cons r1
  obtain ⟨v3, vs3, d3, ds3, p3, q3, rfl, rfl, rfl, h3, r3⟩ := trodAll_cons r2
  obtain ⟨v4, vs4, d4, ds4, p4, q4, rfl, rfl, rfl, h4, r4⟩ := trodAll_cons r3
  obtain ⟨rfl, rfl, rfl⟩ := trodAll_nil r4
  obtain rfl : args = #[v0, v1, v2, v3, v4] := by cases args; simp_all
  obtain ⟨rfl, rfl⟩ := trodVars_none hV
  obtain ⟨a0, n0, c0, rfl⟩ := okWide_slice Try.underlying22 (hval 0 22 v0 rfl rfl)
  have k0 := h0
  have lt0 : ∀ x ∈ p0, x.block < W.heap.size := by obtain ⟨m, hm⟩ := k0; exact DataW.trod_lt m _ _ _ hm
  obtain ⟨hc0, _, l0, hl0, bs0⟩ : n0 ≤ c0 ∧ c0 ≤ maxLen ∧ ∃ l : List UInt8, l.length = n0 ∧ BS W a0 l := by
    obtain ⟨fuel, hf⟩ := h0
    exact bytes_in Try.underlying22 Try.underlying5 (by kernel_rfl) hf
  subst hl0
  obtain ⟨a1, n1, c1, rfl⟩ := okWide_slice Try.underlying22 (hval 1 22 v1 rfl rfl)
  have k1 := h1
  have lt1 : ∀ x ∈ p1, x.block < W.heap.size := by obtain ⟨m, hm⟩ := k1; exact DataW.trod_lt m _ _ _ hm
  obtain ⟨hc1, _, l1, hl1, bs1⟩ : n1 ≤ c1 ∧ c1 ≤ maxLen ∧ ∃ l : List UInt8, l.length = n1 ∧ BS W a1 l := by
    obtain ⟨fuel, hf⟩ := h1
    exact bytes_in Try.underlying22 Try.underlying5 (by kernel_rfl) hf
  subst hl1
  obtain ⟨a2, n2, c2, rfl⟩ := okWide_slice Try.underlying23 (hval 2 23 v2 rfl rfl)
  have k2 := h2
  have lt2 : ∀ x ∈ p2, x.block < W.heap.size := by obtain ⟨m, hm⟩ := k2; exact DataW.trod_lt m _ _ _ hm
  obtain ⟨hc2, _, l2, hl2, ll2, lm2⟩ : n2 ≤ c2 ∧ c2 ≤ maxLen ∧ ∃ l : List (List UInt8), l.length = n2 ∧ LL W a2 l ∧ ∀ (i : Nat) (y : List UInt8), l[i]? = some y → y.length ≤ maxLen := by
    obtain ⟨fuel, hf⟩ := h2
    exact rows_in Try.underlying23 Try.underlying22 Try.underlying5 (by kernel_rfl) (by kernel_rfl) hf
  subst hl2
  obtain ⟨a3, n3, c3, rfl⟩ := okWide_slice Try.underlying23 (hval 3 23 v3 rfl rfl)
  have k3 := h3
  have lt3 : ∀ x ∈ p3, x.block < W.heap.size := by obtain ⟨m, hm⟩ := k3; exact DataW.trod_lt m _ _ _ hm
  obtain ⟨hc3, _, l3, hl3, ll3, lm3⟩ : n3 ≤ c3 ∧ c3 ≤ maxLen ∧ ∃ l : List (List UInt8), l.length = n3 ∧ LL W a3 l ∧ ∀ (i : Nat) (y : List UInt8), l[i]? = some y → y.length ≤ maxLen := by
    obtain ⟨fuel, hf⟩ := h3
    exact rows_in Try.underlying23 Try.underlying22 Try.underlying5 (by kernel_rfl) (by kernel_rfl) hf
  subst hl3
  obtain ⟨x4, rfl, rfl, rfl, w4⟩ := open_int Try.underlying3 (hval 4 3 v4 rfl rfl) h4
  clear hA0 hval0
  refine (fnMediatype_walk a0 l0 c0 a1 l1 c1 a2 l2 c2 a3 l3 c3 x4 W bs0 bs1 hc2 ll2 lm2 hc3 ll3 lm3 w4).mono fun e W' ⟨he, bel⟩ => ?_
  subst he
  exact ⟨_, rfl, _, _, _, [], _, [], hW', trodAll_mk1 (shut_bool Try.underlying4 _), (trodAll_cons_mk (Below.trod laidOut (by kernel_rfl) (of_decide_eq_true (by kernel_rfl)) k0 bel lt0) (trodAll_cons_mk (Below.trod laidOut (by kernel_rfl) (of_decide_eq_true (by kernel_rfl)) k1 bel lt1) (trodAll_cons_mk (Below.trod laidOut (by kernel_rfl) (of_decide_eq_true (by kernel_rfl)) k2 bel lt2) (trodAll_cons_mk (Below.trod laidOut (by kernel_rfl) (of_decide_eq_true (by kernel_rfl)) k3 bel lt3) (trodAll_cons_mk (shut_int Try.underlying3 w4) trodAll_mk0))))), rfl, bel.frame _, fun h => by cases h⟩

theorem over : Rows.fnMediatypeRow.holds Try.pinned (OpenSpec.ofChange Rows.fnMediatypeSpec) :=
  OpenClaim.holds_of_wide 3 Try.f3 rfl rfl rfl rfl rfl rfl rfl ⟨rfl, rfl, rfl, rfl, rfl⟩ rfl rfl rfl rfl rfl (by kernel_rfl) Try.func3 (by kernel_rfl)
    (of_decide_eq_true (by kernel_rfl)) (by unfold Func.isWrapper; first | (rw [if_pos (by decide +kernel)]; kernel_rfl) | (rw [if_neg (by decide +kernel)]; exact ⟨rfl, rfl⟩))
    (fun os started H enc _ => lifted os started H enc)

theorem proved : Rows.FnMediatypeSaid := over
#print axioms proved
end Go.Proofs.Ytndoaeipcdcahaa.fnMediatype
