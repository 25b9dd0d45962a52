/- The test whether names with values are the same as others. Condition: each name has its value at some place. -/
import Derived.Test.YtndoaeipcdcahaaWd
import Derived.Test.YtndoaeipcdcahaaSort
namespace Go.Proofs.Ytndoaeipcdcahaa
open Go.RowKit
set_option linter.unusedVariables false
set_option linter.unusedSimpArgs false

/-- A conversion whose run is known, in a region that draws and only reads. -/
theorem quiet_conv {P : Program} {o : Oper} {a : Act} {C : World → Prop} {K : Act → Prop} (src dst : TypeId) (x : Operand) (vx v : Value) (ho : o.op = .convert src dst x) (hx : a.eval x = vx)
    (hrun : ∀ w, C w → (convert src dst vx).run P w = .ok v w) (hk : K (a.put o.dst v)) : o.quiet P a C K :=
  ⟨v, fun w hw => by
    unfold Oper.quietAt execOp
    subst hx
    simp only [ho, hrun w hw, Sem.run_bind, Sem.run_pure, Result.andThen_ok]
    exact ⟨rfl, rfl⟩, hk⟩
theorem sstr_eq {x y : List UInt8} : ((⟨x.toArray⟩ : ByteArray).toList == (⟨y.toArray⟩ : ByteArray).toList) = decide (x = y) := by
  rw [Bool.eq_iff_iff, beq_iff_eq, decide_eq_true_eq]
  constructor
  · intro h
    rw [ByteArray.toList_eq, ByteArray.toList_eq] at h
    simpa using h
  · rintro rfl
    rfl
set_option maxRecDepth 100000 in
set_option maxHeartbeats 4000000 in
theorem pairs_any (ga gb ck cv k b1 o1 b2 o2 c1 c2 base : Nat) (ks gs ns vs : List (List UInt8)) (w : World) (hk : Strs w base ga k ck ks) (hg : Strs w base gb k cv gs) (hns : LL w (some ⟨b1, o1, none⟩) ns) (hvs : LL w (some ⟨b2, o2, none⟩) vs) (hn : ns.length = k) (hv : vs.length = k) (hk10 : k ≤ 10)
    (hm : ∀ i, i < k → ∃ j, j < k ∧ ks[j]? = ns[i]? ∧ gs[j]? = vs[i]?) :
    Calls Try.prog 9 #[.slice (some ⟨ga, 0, none⟩) k ck, .slice (some ⟨gb, 0, none⟩) k cv, .slice (some ⟨b1, o1, none⟩) k c1, .slice (some ⟨b2, o2, none⟩) k c2] w fun e w' => e = .returned (.bool true) ∧ ∃ m, w' = w.drewN m := by
  have Hk := hide hk
  have Hg := hide hg
  have Hns := hide hns
  have Hvs := hide hvs
  have Hn := hide hn
  have Hv := hide hv
  have Hm := hide hm
  clear hk hg hns hvs hn hv hm
  go_enter Try.func9, Try.ntmps9
  go_wp2
  go_loopg [28] k (fun gi iv wr => ∃ i q : Nat, k - i ≤ gi ∧ i ≤ k ∧ iv = .int .i64 (i : Int) ∧ wr = w.drewN q)
  case atStart => exact ⟨0, 0, by omega, Nat.zero_le _, rfl, rfl⟩
  case round =>
    obtain ⟨i, q, hgi, hik, rfl, rfl⟩ := hrel
    by_cases hi : i < k
    · obtain ⟨x, hx⟩ : ∃ d, ns[i]? = some d := ⟨_, List.getElem?_eq_getElem (by have := Hn.out; omega)⟩
      obtain ⟨y, hy⟩ : ∃ d, vs[i]? = some d := ⟨_, List.getElem?_eq_getElem (by have := Hv.out; omega)⟩
      obtain ⟨b1', o1', Ai, ci, e1, hcx, hxc, hbx⟩ := Hns.out i x hx
      obtain ⟨b2', o2', Bi, di, e2, hcy, hyc, hby⟩ := Hvs.out i y hy
      obtain ⟨rfl, rfl⟩ : b1 = b1' ∧ o1 = o1' := by simpa using e1
      obtain ⟨rfl, rfl⟩ : b2 = b2' ∧ o2 = o2' := by simpa using e2
      have kx := fun m => run_str (P := Try.prog) (hbx.drewN m) ci 22 9 5 Try.underlying22 Try.underlying5 Try.underlying9
      have ky := fun m => run_str (P := Try.prog) (hby.drewN m) di 22 9 5 Try.underlying22 Try.underlying5 Try.underlying9
      have Hx := hide hx
      have Hy := hide hy
      obtain ⟨X, hX⟩ : ∃ X : ByteArray, (⟨x.toArray⟩ : ByteArray) = X := ⟨_, rfl⟩
      obtain ⟨Y, hY⟩ : ∃ Y : ByteArray, (⟨y.toArray⟩ : ByteArray) = Y := ⟨_, rfl⟩
      rw [hX] at kx
      rw [hY] at ky
      have HX := hide hX
      have HY := hide hY
      have Kx := hide kx
      have Ky := hide ky
      clear hx hy hbx hby e1 e2 hX hY kx ky
      go_wp2
      go_loopg [11, 35] k (fun gj fv jv wr => ∃ (j q2 : Nat) (f : Bool), k - j ≤ gj ∧ j ≤ k ∧ fv = .bool f ∧ jv = .int .i64 (j : Int) ∧ Hid (f = false → ∀ t, t < j → ¬ (ks[t]? = some x ∧ gs[t]? = some y)) ∧ wr = w.drewN q2)
      case atStart => exact ⟨0, q, false, by omega, Nat.zero_le _, rfl, rfl, fun _ t ht => absurd ht (by omega), rfl⟩
      case round =>
        obtain ⟨j, q2, f, hgj, hjk, rfl, rfl, hf, rfl⟩ := hrel
        by_cases hj : j < k
        · obtain ⟨u, hu⟩ : ∃ d, ks[j]? = some d := ⟨_, List.getElem?_eq_getElem (by have := Hk.out.len; omega)⟩
          obtain ⟨v, hv⟩ : ∃ d, gs[j]? = some d := ⟨_, List.getElem?_eq_getElem (by have := Hg.out.len; omega)⟩
          have cu := Hk.out.cell hu
          have cv_ := Hg.out.cell hv
          have Hu := hide hu
          have Hvv := hide hv
          obtain ⟨U, hU⟩ : ∃ U : ByteArray, (⟨u.toArray⟩ : ByteArray) = U := ⟨_, rfl⟩
          obtain ⟨V, hV⟩ : ∃ V : ByteArray, (⟨v.toArray⟩ : ByteArray) = V := ⟨_, rfl⟩
          have cu2 : w.cell? ⟨ga, j, none⟩ = some (.string U) := by rw [← hU]; exact cu
          have cv2 : w.cell? ⟨gb, j, none⟩ = some (.string V) := by rw [← hV]; exact cv_
          have t1 : (U.toList == X.toList) = decide (u = x) := by rw [← hU, ← HX.out]; exact sstr_eq
          have t2 : (V.toList == Y.toList) = decide (v = y) := by rw [← hV, ← HY.out]; exact sstr_eq
          clear hu hv cu cv_ hU hV
          cases f with
          | true =>
            clear t1 t2
            go_wp2
            go_quiet (fail)
            go_wp2
            go_roundg (k - (j + 1))
            case rel => exact ⟨j + 1, _, true, Nat.le_refl _, by omega, rfl, by go_num, (fun h => by cases h), by first | rfl | (rw [World.drewN_drewN])⟩
            case measure => omega
          | false =>
            by_cases h1 : u = x
            · have t1' : (U.toList == X.toList) = true := t1.trans (decide_eq_true h1)
              by_cases h2 : v = y
              · have t2' : (V.toList == Y.toList) = true := t2.trans (decide_eq_true h2)
                have H1 := hide h1
                have H2 := hide h2
                clear t1 t2 h1 h2
                go_wp2
                refine wp_region_quiet_lit (by kernel_rfl) (by kernel_rfl) ?_
                repeat (go_big_quiet_step (fail))
                refine BigFrame.wpQuiet_want rfl fun K hK => quiet_conv _ _ _ _ _ rfl rfl (fun w' hw => by obtain ⟨m, rfl⟩ := hw; first | (rw [World.drewN_drewN]; exact Kx.out _) | exact Kx.out _) (hK _ ?_)
                clear hK K
                go_simp
                repeat (go_big_quiet_step (fail))
                refine BigFrame.wpQuiet_want rfl fun K hK => quiet_conv _ _ _ _ _ rfl rfl (fun w' hw => by obtain ⟨m, rfl⟩ := hw; first | (rw [World.drewN_drewN]; exact Ky.out _) | exact Ky.out _) (hK _ ?_)
                clear hK K
                go_simp
                repeat (go_big_quiet_step (fail))
                refine wpQuiet_nil ?_
                intro nq
                go_wp2
                go_roundg (k - (j + 1))
                case rel => exact ⟨j + 1, _, true, Nat.le_refl _, by omega, rfl, by go_num, (fun h => by cases h), by first | rfl | (rw [World.drewN_drewN])⟩
                case measure => omega
              · have t2' : (V.toList == Y.toList) = false := t2.trans (decide_eq_false h2)
                have H1 := hide h1
                have H2 := hide h2
                clear t1 t2 h1 h2
                go_wp2
                refine wp_region_quiet_lit (by kernel_rfl) (by kernel_rfl) ?_
                repeat (go_big_quiet_step (fail))
                refine BigFrame.wpQuiet_want rfl fun K hK => quiet_conv _ _ _ _ _ rfl rfl (fun w' hw => by obtain ⟨m, rfl⟩ := hw; first | (rw [World.drewN_drewN]; exact Kx.out _) | exact Kx.out _) (hK _ ?_)
                clear hK K
                go_simp
                repeat (go_big_quiet_step (fail))
                refine BigFrame.wpQuiet_want rfl fun K hK => quiet_conv _ _ _ _ _ rfl rfl (fun w' hw => by obtain ⟨m, rfl⟩ := hw; first | (rw [World.drewN_drewN]; exact Ky.out _) | exact Ky.out _) (hK _ ?_)
                clear hK K
                go_simp
                repeat (go_big_quiet_step (fail))
                refine wpQuiet_nil ?_
                intro nq
                go_wp2
                go_roundg (k - (j + 1))
                case rel => exact ⟨j + 1, _, false, Nat.le_refl _, by omega, rfl, by go_num, (fun _ t ht hh => by
                    rcases Nat.lt_or_ge t j with h9 | h9
                    · exact hf.out (by first | trivial | rfl) t h9 hh
                    · obtain rfl : t = j := by omega
                      rw [Hu.out, Hvv.out] at hh
                      exact H2.out (by simpa using hh.2)), by first | rfl | (rw [World.drewN_drewN])⟩
                case measure => omega
            · have t1' : (U.toList == X.toList) = false := t1.trans (decide_eq_false h1)
              have H1 := hide h1
              clear t1 t2 h1
              go_wp2
              refine wp_region_quiet_lit (by kernel_rfl) (by kernel_rfl) ?_
              repeat (go_big_quiet_step (fail))
              refine BigFrame.wpQuiet_want rfl fun K hK => quiet_conv _ _ _ _ _ rfl rfl (fun w' hw => by obtain ⟨m, rfl⟩ := hw; first | (rw [World.drewN_drewN]; exact Kx.out _) | exact Kx.out _) (hK _ ?_)
              clear hK K
              go_simp
              repeat (go_big_quiet_step (fail))
              refine wpQuiet_nil ?_
              intro nq
              go_wp2
              go_roundg (k - (j + 1))
              case rel => exact ⟨j + 1, _, false, Nat.le_refl _, by omega, rfl, by go_num, (fun _ t ht hh => by
                  rcases Nat.lt_or_ge t j with h9 | h9
                  · exact hf.out (by first | trivial | rfl) t h9 hh
                  · obtain rfl : t = j := by omega
                    rw [Hu.out, Hvv.out] at hh
                    exact H1.out (by simpa using hh.1)), by first | rfl | (rw [World.drewN_drewN])⟩
              case measure => omega
        · obtain rfl : j = k := by omega
          cases f with
          | true =>
            go_wp2
            go_roundg (j - (i + 1))
            case rel => exact ⟨i + 1, _, Nat.le_refl _, by omega, by go_num, rfl⟩
            case measure => omega
          | false =>
            exfalso
            obtain ⟨t, ht, h1, h2⟩ := Hm.out i hi
            exact hf.out (by first | trivial | rfl) t ht ⟨h1.trans Hx.out, h2.trans Hy.out⟩
    · go_wp2
      go_ret
      exact ⟨rfl, _, rfl⟩
end Go.Proofs.Ytndoaeipcdcahaa
