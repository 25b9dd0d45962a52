/- 'laws.FnReplaced' returns true for every input, and whatever was in memory reads as before. Condition: none. The package-level tables read as the text lays them (the card ties them). -/
import Derived.Test.YtnepjlfkbmindaaDoorCards
import Derived.Test.YtnepjlfkbmindaaDoorTie
import Derived.Test.YtnepjlfkbmindaaDoorWRepl
import Derived.Test.YtnepjlfkbmindaaDoorRpT
import Derived.Test.YtnepjlfkbmindaaDoorLRows
import Derived.Deep.DeepHandedRow
import Derived.Lib.LaidTab
import Derived.LaidMore
import Derived.OpenVars
import Derived.Stop.Joined
import Derived.Lay
import Derived.LaidOnce
namespace Go.Proofs.YtnepjlfkbmindaaDoor.fnReplaced
open Go.ChangeShapes Go.WideShapes Go.ChangeAt Go.RowKit

theorem own : ownKnob Tryd.prog.godebug = none := by kernel_rfl
theorem laidOut : laidOutB Tryd.prog = true := by kernel_rfl

theorem vars_shape {H : Type} {enc : TypeId × Value → H} {P : Program} {w : World} {sp : Nat → Bool} : ∀ {ns : List String} {gs : List (DataW H)} {ps : List MemPlace}, DataW.TrodVars enc P w sp ns gs ps → gs.length = ns.length
  | [], [], _, _ => rfl
  | [], _ :: _, _, h => h.elim
  | _ :: _, [], _, h => h.elim
  | _ :: ns, _ :: ds, _, h => by
    obtain ⟨_, _, _, _, _, _, _, _, _, _, hs, _⟩ := h
    simp [vars_shape hs]
theorem shape_list {α : Type} {l : List α} (h : l.length = 2) : ∃ g0 g1, l = [g0, g1] := by
  match l, h with
  | [g0, g1], _ => exact ⟨g0, g1, rfl⟩

/-- What the walks give, for every argument and every world that holds the tables. -/
theorem contract (H : Type) (enc : TypeId × Value → H) (W : World) (base : Nat) (args : Array Value) (ds gs : List (DataW H)) (before : List MemPlace)
    (hval0 : ∀ (j : Nat) t v, Tryd.f3.params[j]? = some t → args[j]? = some v → Value.okWide Tryd.prog W .any base t v)
    (hW : DataW.Whole enc Tryd.prog Tryd.f3.params.toList Rows.fnReplacedSpec.vars false W args.toList ds gs before) (hL : laidMetH Tryd.prog Rows.fnReplacedRow.laid W) :
    Calls Tryd.prog 3 args W fun e W' => ∃ v, e = .returned v ∧ Rows.fnReplacedSpec.post enc Tryd.prog Tryd.f3 false true false false W args v W' := by
  have hval : ∀ (j : Nat) t v, Tryd.f3.params[j]? = some t → args[j]? = some v → Value.okWide Tryd.prog W .any base t v := hval0
  have hW' := hW
  obtain ⟨p, q, hA0, hV, rfl, hfz, hnd⟩ := hW
  have hA : DataW.TrodAll enc Tryd.prog W 0 (fun _ => true) true Tryd.f3.params.toList args.toList ds p := hA0
  rw [Tryd.params3] at hA hval
  obtain ⟨v0, vs0, d0, ds0, p0, q0, hargs, rfl, rfl, h0, r0⟩ := trodAll_cons hA
  obtain ⟨v1, vs1, d1, ds1, p1, q1, rfl, rfl, rfl, h1, r1⟩ := trodAll_cons r0
  obtain ⟨v2, vs2, d2, ds2, p2, q2, rfl, rfl, rfl, h2, r2⟩ := trodAll_cons r1
  obtain ⟨v3, vs3, d3, ds3, p3, q3, rfl, rfl, rfl, h3, r3⟩ := trodAll_cons r2
  obtain ⟨v4, vs4, d4, ds4, p4, q4, rfl, rfl, rfl, h4, r4⟩ := trodAll_cons r3
  obtain ⟨rfl, rfl, rfl⟩ := trodAll_nil r4
  obtain rfl : args = #[v0, v1, v2, v3, v4] := by cases args; simp_all
  obtain ⟨g0, g1, rfl⟩ := shape_list (vars_shape hV)
  obtain ⟨a0, n0, c0, rfl⟩ := okWide_slice Tryd.underlying22 (hval 0 22 v0 rfl rfl)
  have k0 := h0
  have lt0 : ∀ x ∈ p0, x.block < W.heap.size := by obtain ⟨m, hm⟩ := k0; exact DataW.trod_lt m _ _ _ hm
  obtain ⟨hc0, _, l0, hl0, is0, ib0⟩ : n0 ≤ c0 ∧ c0 ≤ maxLen ∧ ∃ l : List Int, l.length = n0 ∧ IntsAt W a0 l ∧ ∀ i (h : i < l.length), -9223372036854775808 ≤ l[i] ∧ l[i] ≤ 9223372036854775807 := by
    obtain ⟨fuel, hf⟩ := h0
    exact ints_in Tryd.underlying22 Tryd.underlying3 (by kernel_rfl) hf
  subst hl0
  obtain ⟨a1, n1, c1, rfl⟩ := okWide_slice Tryd.underlying23 (hval 1 23 v1 rfl rfl)
  have k1 := h1
  have lt1 : ∀ x ∈ p1, x.block < W.heap.size := by obtain ⟨m, hm⟩ := k1; exact DataW.trod_lt m _ _ _ hm
  obtain ⟨hc1, _, l1, hl1, ll1, lm1⟩ : n1 ≤ c1 ∧ c1 ≤ maxLen ∧ ∃ l : List (List UInt8), l.length = n1 ∧ LL W a1 l ∧ ∀ (i : Nat) (y : List UInt8), l[i]? = some y → y.length ≤ maxLen := by
    obtain ⟨fuel, hf⟩ := h1
    exact rows_in Tryd.underlying23 Tryd.underlying26 Tryd.underlying5 (by kernel_rfl) (by kernel_rfl) hf
  subst hl1
  obtain ⟨a2, n2, c2, rfl⟩ := okWide_slice Tryd.underlying23 (hval 2 23 v2 rfl rfl)
  have k2 := h2
  have lt2 : ∀ x ∈ p2, x.block < W.heap.size := by obtain ⟨m, hm⟩ := k2; exact DataW.trod_lt m _ _ _ hm
  obtain ⟨hc2, _, l2, hl2, ll2, lm2⟩ : n2 ≤ c2 ∧ c2 ≤ maxLen ∧ ∃ l : List (List UInt8), l.length = n2 ∧ LL W a2 l ∧ ∀ (i : Nat) (y : List UInt8), l[i]? = some y → y.length ≤ maxLen := by
    obtain ⟨fuel, hf⟩ := h2
    exact rows_in Tryd.underlying23 Tryd.underlying26 Tryd.underlying5 (by kernel_rfl) (by kernel_rfl) hf
  subst hl2
  obtain ⟨a3, n3, c3, rfl⟩ := okWide_slice Tryd.underlying23 (hval 3 23 v3 rfl rfl)
  have k3 := h3
  have lt3 : ∀ x ∈ p3, x.block < W.heap.size := by obtain ⟨m, hm⟩ := k3; exact DataW.trod_lt m _ _ _ hm
  obtain ⟨hc3, _, l3, hl3, ll3, lm3⟩ : n3 ≤ c3 ∧ c3 ≤ maxLen ∧ ∃ l : List (List UInt8), l.length = n3 ∧ LL W a3 l ∧ ∀ (i : Nat) (y : List UInt8), l[i]? = some y → y.length ≤ maxLen := by
    obtain ⟨fuel, hf⟩ := h3
    exact rows_in Tryd.underlying23 Tryd.underlying26 Tryd.underlying5 (by kernel_rfl) (by kernel_rfl) hf
  subst hl3
  obtain ⟨x4, rfl, rfl, rfl⟩ := open_bool Tryd.underlying4 (hval 4 4 v4 rfl rfl) h4
  clear hA0 hval0
  refine (fnReplaced_walk a0 l0 c0 a1 l1 c1 a2 l2 c2 a3 l3 c3 x4 W hc0 is0 ib0 hc1 ll1 lm1 hc2 ll2 lm2 hc3 ll3 lm3 (fnReplaced_ws hL) (fnReplaced_nl hL)).mono fun e W' ⟨he, bel⟩ => ?_
  subst he
  exact ⟨_, rfl, _, _, _, [], _, _, hW', trodAll_mk1 (shut_bool Tryd.underlying4 _), (trodAll_cons_mk (Below.trod laidOut (by kernel_rfl) (of_decide_eq_true (by kernel_rfl)) k0 bel lt0) (trodAll_cons_mk (Below.trod laidOut (by kernel_rfl) (of_decide_eq_true (by kernel_rfl)) k1 bel lt1) (trodAll_cons_mk (Below.trod laidOut (by kernel_rfl) (of_decide_eq_true (by kernel_rfl)) k2 bel lt2) (trodAll_cons_mk (Below.trod laidOut (by kernel_rfl) (of_decide_eq_true (by kernel_rfl)) k3 bel lt3) (trodAll_cons_mk (shut_bool Tryd.underlying4 _) trodAll_mk0))))), Below.trodVars laidOut bel (by kernel_rfl) hV, bel.frame _, fun h => by cases h⟩

/-- What the listed variables hold in a world, if they read and no place is met twice: in one reckoning. -/
noncomputable def leaves (P : Program) (w : World) (fuel M : Nat) (laid : List (String × DataW Unit)) : Option (List (String × DataW Unit)) :=
  (DataW.laidRun P w fuel (laid.map (·.1))).bind fun x => if nodupBits M x.2 0 && laidRowsB P w x.2 then some x.1 else none
theorem laidMet_of_leaves {P : Program} {w : World} {fuel M : Nat} {laid : List (String × DataW Unit)} (h : leaves P w fuel M laid = some laid) : laidMet P laid w := by
  unfold leaves at h
  obtain ⟨x, hx, h⟩ := Option.bind_eq_some_iff.1 h
  split at h
  · rename_i hb
    simp only [Bool.and_eq_true] at hb
    have e := Option.some.inj h
    exact laidMet_of_run (ps := x.2) fuel (by rw [hx, ← e]) (decide_eq_true (nodupBits_sound hb.1).1) hb.2
  · cases h
theorem laid_met0 (os : Os) : laidMet Tryd.prog Rows.fnReplacedRow.laid ((World.laidAll Tryd.prog os Rows.fnReplacedRow.laid).forCall (fun _ _ => 0) ⟨#[], #[.slice none 0 0, .slice none 0 0, .slice none 0 0, .slice none 0 0, .bool false], []⟩).memory :=
  laidMet_laidAll _ (by kernel_rfl) (by kernel_rfl)
theorem laid_met (os : Os) : laidMetH Tryd.prog Rows.fnReplacedRow.laid ((World.laidAll Tryd.prog os Rows.fnReplacedRow.laid).forCall (fun _ _ => 0) ⟨#[], #[.slice none 0 0, .slice none 0 0, .slice none 0 0, .slice none 0 0, .bool false], []⟩).memory :=
  laid_met0 os
theorem reads (os : Os) {H : Type} (enc : TypeId × Value → H) : ∃ x, DataW.whole enc Tryd.prog ((World.laidAll Tryd.prog os Rows.fnReplacedRow.laid).forCall (fun _ _ => 0) ⟨#[], #[.slice none 0 0, .slice none 0 0, .slice none 0 0, .slice none 0 0, .bool false], []⟩).memory Tryd.f3.params.toList Rows.fnReplacedSpec.vars false #[.slice none 0 0, .slice none 0 0, .slice none 0 0, .slice none 0 0, .bool false].toList 8 = some x :=
  Option.isSome_iff_exists.1 (by kernel_rfl)

set_option maxRecDepth 100000 in
theorem lifted (os : Os) (started : os.Started) (H : Type) (enc : TypeId × Value → H) (F : Stop.Interp) :
    ReturnsInHanded {} Tryd.checked os 3 .any ((OpenSpec.ofChange Rows.fnReplacedSpec).preRow enc Tryd.prog Tryd.f3 Rows.fnReplacedRow.domain false Rows.fnReplacedRow.laid) (((OpenSpec.ofChange Rows.fnReplacedSpec).at F).post enc Tryd.prog Tryd.f3 false true false false) := by
  obtain ⟨x, hx⟩ := reads os enc
  refine returnsInHanded_of_row (C := Tryd.checked) (s := OpenSpec.ofChange Rows.fnReplacedSpec) own started (by kernel_rfl) Tryd.func3
    (witness_row_at (enc := enc) (C := Tryd.checked) false (World.laidAll Tryd.prog os Rows.fnReplacedRow.laid) #[.slice none 0 0, .slice none 0 0, .slice none 0 0, .slice none 0 0, .bool false] (World.laidAll_os _ _ _) (by kernel_rfl) (by kernel_rfl) (by kernel_rfl)
      (OpenSpec.preRow_of_cond 8 hx rfl (fun k hk => by cases hk) (by kernel_rfl) (laid_met os))) ?_
  intro W base args ds gs before hval hW _ _ _ hL _ _
  exact contract H enc W base args ds gs before hval hW hL

theorem said : Rows.FnReplacedSaid :=
  OpenClaim.holds_of_cond 3 Tryd.f3 rfl rfl rfl rfl rfl rfl rfl ⟨rfl, rfl, rfl, rfl, rfl⟩ rfl rfl rfl rfl rfl (by kernel_rfl) Tryd.func3 (by kernel_rfl)
    (of_decide_eq_true (by kernel_rfl)) (by unfold Func.isWrapper; first | (rw [if_pos (by decide +kernel)]; kernel_rfl) | (rw [if_neg (by decide +kernel)]; exact ⟨rfl, rfl⟩))
    (fun os started H enc _ F => by rw [OpenClaim.pre_eq_preRow]; exact lifted os started H enc F)

theorem plain (f : FuncId) (fn : Func) (hf : Tryd.pinned.checked.prog.funcNamed "loop.example/pub-g01476/laws.FnReplaced" = some f) (hfn : Tryd.pinned.checked.prog.funcs[f]? = some fn) :
    false = Tryd.pinned.checked.prog.looks [] ∧ ∀ (j : Nat) t, fn.params[j]? = some t → Tryd.pinned.checked.prog.wantsStandIn t = false := by
  obtain rfl : f = 3 := Option.some.inj ((show Tryd.prog.funcNamed "loop.example/pub-g01476/laws.FnReplaced" = some 3 by kernel_rfl).symm.trans hf) |>.symm
  obtain rfl : fn = Tryd.f3 := (Option.some.inj (Tryd.func3.symm.trans hfn)).symm
  refine ⟨by kernel_rfl, fun j t ht => ?_⟩
  rw [Tryd.params3] at ht
  have hm : t ∈ [22, 23, 23, 23, 4] := by simpa using Array.mem_of_getElem? ht
  have hall : ([22, 23, 23, 23, 4].all fun u => !Tryd.prog.wantsStandIn u) = true := by kernel_rfl
  exact (show Tryd.prog.wantsStandIn t = false by simpa using List.all_eq_true.1 hall t hm)

theorem card : Rows.FnReplacedCardSaid :=
  Claim7.holds_tied_plain_at .later [] _ _ _ _ said (fun _ h => by cases h) (by kernel_rfl) (fun _ h => by cases h) fnReplaced_row_tie rfl ⟨rfl, rfl⟩ (by kernel_rfl) rfl plain (by kernel_rfl)
#print axioms card
end Go.Proofs.YtnepjlfkbmindaaDoor.fnReplaced
