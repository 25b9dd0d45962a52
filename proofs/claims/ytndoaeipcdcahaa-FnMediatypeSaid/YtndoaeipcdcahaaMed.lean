/- The package's reading of a media type with parameters. Conditions: the text is a media type with parameters as the law writes it. -/
import Derived.Test.YtndoaeipcdcahaaSeg
import Derived.Deep.DeepCutAuto
import Derived.ScopeJumps
import Derived.WalkMore
import Derived.Maps.RangeWalk
namespace Go.Proofs.Ytndoaeipcdcahaa
open Go.RowKit
set_option linter.unusedVariables false
set_option linter.unusedSimpArgs false
theorem str_val {l : List UInt8} {J : Nat} {x : UInt8} (hJ : J < l.length) (h : l[J]? = some x) : (⟨l.toArray⟩ : ByteArray)[J]'(by show J < l.toArray.size; simpa using hJ) = x := by
  obtain ⟨_, e⟩ := List.getElem?_eq_some_iff.1 h
  rw [← e]
  rfl
theorem str_cut {l m : List UInt8} {J M : Nat} (h : Lies l J m) (hM : J + m.length = M) : (⟨l.toArray⟩ : ByteArray).extract J M = ⟨m.toArray⟩ := by
  apply ByteArray.ext
  rw [ByteArray.data_extract]
  show l.toArray.extract J M = m.toArray
  have e := h.cut
  rw [← e]
  apply Array.ext'
  simp
  omega
theorem fr_ex (a : Act) (F : (Nat → Value) → Act) (h : a = F (fun i => a.tmps.getD i undef)) : ∃ u, a = F u := ⟨_, h⟩
theorem clean_ne {x : List UInt8} (h : Clean x) {j : Nat} {c : UInt8} (hc : x[j]? = some c) : ((c.toNat : Int) != 59) = true ∧ ((c.toNat : Int) != 61) = true ∧ ((c.toNat : Int) != 32) = true := by
  obtain ⟨h1, h2, h3⟩ := clean_at h hc
  simp only [bne, h1, h2, h3]
  exact ⟨rfl, rfl, rfl⟩
/-- What the reading gives: the media type and a map of the parameters. -/
def MedRet (b o m c : Nat) (ps : List Ent) (w : World) (e : Ending) (w' : World) : Prop := ∃ B, e = .returned (.tuple #[.slice (some ⟨b, o, none⟩) m c, .map (some B)]) ∧ ∃ qs, qs = ps ∧ MapHas w' B qs ∧ Below w.heap.size w w' ∧ w.heap.size ≤ B
theorem wp_scope_again {P : Program} {a : Act} {w : World} {Q : Exit → Act → World → Prop} {c rest : Code} (l : Nat) (J : Act → World → Prop) (μ : Act → World → Nat) (hf : findLabel c l = some (Code.skip.seq rest))
    (pass0 : ∀ a w, J a w → rest.wp P (Exit.jump l (fun a' w' => J a' w' ∧ μ a' w' < μ a w) Q) a w)
    (first : (∀ a w, J a w → rest.wp P (Exit.jump l J Q) a w) → c.wp P (Exit.jump l J Q) a w) : (Code.scope c).wp P Q a w := by
  have pass : ∀ a w, J a w → (Code.skip.seq rest).wp P (Exit.jump l (fun a' w' => J a' w' ∧ μ a' w' < μ a w) Q) a w := fun a w h => wp_seq (wp_skip (pass0 a w h))
  refine wp_scope_jumps l J μ hf (first fun a w h => wp_mono (pass0 a w h) ?_) pass
  intro e a' w' hq
  cases e with
  | goto l' => exact ⟨hq.1, hq.2.1⟩
  | normal => exact hq
  | exit id => exact hq
  | ret => exact hq
  | panic ch => exact hq
  | outgrown => exact hq
set_option maxRecDepth 100000 in
set_option maxHeartbeats 4000000 in
theorem med_some (b o n c m bl : Nat) (l media : List UInt8) (p0 : Ent) (ps : List Ent) (w : World) (bs : BS w (some ⟨b, o, none⟩) l) (hn : l.length = n) (hc : n ≤ c) (h5 : n ≤ 5000) (hm : media.length = m) (h3 : 3 ≤ m)
    (hcl : Clean media) (hlm : Lies l 0 media) (hend : m + (tailOf bl (p0 :: ps)).length = n) (hlt : Lies l m (tailOf bl (p0 :: ps))) (hcp : ∀ p ∈ p0 :: ps, Clean p.1 ∧ Clean p.2 ∧ 0 < p.1.length ∧ 0 < p.2.length)
    (hdl : ∀ done : List Ent, ∀ {p : Ent} {todo : List Ent}, done ++ p :: todo = p0 :: ps → done.length ≤ 1000) (hdn : ∀ (done : List Ent) (p : Ent) (todo : List Ent), done ++ p :: todo = p0 :: ps → p.1 ∉ done.map (·.1)) :
    Calls Try.prog 11 #[.slice (some ⟨b, o, none⟩) n c] w (MedRet b o m c (p0 :: ps) w) := by
  have hmn : m < n := by
    obtain ⟨hh, _⟩ := List.getElem?_eq_some_iff.1 (hlt.at_ (j := 0) tail_head)
    omega
  have Hn := hide hn
  have Hend := hide hend
  clear hend
  have Hlm := hide hlm
  have Hlt := hide hlt
  have Hcl := hide hcl
  have Hbs := hide bs
  obtain ⟨x0, hx0⟩ : ∃ x, media[0]? = some x := ⟨_, List.getElem?_eq_getElem (by omega)⟩
  have hy0 := hlm.at_ hx0
  obtain ⟨b1, o1, e1, cell0⟩ := bs.at_ hy0
  obtain ⟨rfl, rfl⟩ : b = b1 ∧ o = o1 := by simpa using e1
  obtain ⟨q1, q2, q3⟩ := clean_at hcl hx0
  clear hn hlm hlt hcl bs e1 hx0 hy0
  go_enter Try.func11, Try.ntmps11
  go_wp2
  have cell0' : w.cell? ⟨b, o, none⟩ = some (.int .u8 (x0.toNat : Int)) := cell0
  have hn0 : decide ((0 : Int) < (n : Int)) = true := decide_eq_true (by omega)
  go_loopg [4] 1 (fun gk iv wr => iv = .int .i64 0 ∧ w = wr)
  case atStart => exact ⟨rfl, rfl⟩
  case round =>
    obtain ⟨rfl, rfl⟩ := hrel
    go_wp2
    clear hn0 cell0 cell0' q1 q2 q3
    go_loopg [6, 7, 8] n (fun gk sv mv iv wr => ∃ i : Nat, n - i ≤ gk ∧ i ≤ m ∧ sv = .slice (some ⟨b, o, none⟩) n c ∧ mv = .map none ∧ iv = .int .i64 (i : Int) ∧ w = wr)
    case atStart => exact ⟨3, by omega, h3, rfl, rfl, by go_num, rfl⟩
    case round =>
      obtain ⟨i, hgk, him, rfl, rfl, rfl, rfl⟩ := hrel
      by_cases hi : i < m
      · obtain ⟨x, hx⟩ : ∃ x, media[i]? = some x := ⟨_, List.getElem?_eq_getElem (by omega)⟩
        have hy := Hlm.out.at_ hx
        rw [Nat.zero_add] at hy
        obtain ⟨b1, o1, e1, cell1⟩ := Hbs.out.at_ hy
        obtain ⟨rfl, rfl⟩ : b = b1 ∧ o = o1 := by simpa using e1
        obtain ⟨q1, q2, q3⟩ := clean_at Hcl.out hx
        have hin : (i : Int) < (n : Int) := by omega
        clear hx hy e1
        go_wp2
        go_roundg (n - (i + 1))
        case rel => exact ⟨i + 1, Nat.le_refl _, by omega, rfl, rfl, by go_num, rfl⟩
        case measure => omega
      · obtain rfl : i = m := by omega
        have hy := Hlt.out.at_ (j := 0) tail_head
        rw [Nat.add_zero] at hy
        obtain ⟨b1, o1, e1, cell1⟩ := Hbs.out.at_ hy
        obtain ⟨rfl, rfl⟩ : b = b1 ∧ o = o1 := by simpa using e1
        have hin : (i : Int) < (n : Int) := by omega
        have hic : (i : Int) ≤ (c : Int) := by omega
        have hstr := run_str (P := Try.prog) (Hbs.out.alloc (.map #[] 0)) c 22 9 5 Try.underlying22 Try.underlying5 Try.underlying9
        rw [Hn.out] at hstr
        have hmm := @run_makeMap Try.prog
        clear hy e1
        go_wp2
        refine wp_scope_again 0 (fun a' w' => ∃ (done todo : List Ent) (p : Ent) (off : Nat), Hid (MapHas w' w.heap.size done) ∧ Hid (Lies l off (tailOf bl (p :: todo))) ∧ Hid (off + (tailOf bl (p :: todo)).length = n) ∧ Hid (done ++ p :: todo = p0 :: ps) ∧ Hid (Below w.heap.size w w') ∧ ∃ u : Nat → Value, a' = { tmps := #[.slice (some ⟨b, o, none⟩) n c, undef, .slice none 0 0, .map none, .int .i64 0, .int .i64 (n : Int), .slice (some ⟨b, o, none⟩) i c, .map (some w.heap.size), .int .i64 (off : Int), .string ⟨l.toArray⟩, u 10, u 11, u 12, u 13, u 14, u 15, u 16, u 17, u 18, u 19, u 20, u 21, u 22, u 23, u 24, u 25, u 26, u 27, u 28, u 29, u 30, u 31, u 32, u 33, u 34, u 35, u 36, u 37, u 38, u 39, u 40, u 41, u 42, u 43, u 44, u 45, u 46, u 47, u 48, u 49, u 50, u 51, u 52, u 53, u 54, u 55, u 56, u 57, u 58, u 59, u 60, u 61, u 62, u 63, u 64, u 65, u 66, u 67, u 68, u 69, u 70, u 71, u 72, u 73, u 74, u 75, u 76, u 77, u 78, u 79, u 80, u 81, u 82, u 83, u 84, u 85, u 86, u 87, u 88, u 89, u 90, u 91, u 92, u 93, u 94, u 95, u 96, u 97, u 98, u 99, u 100, u 101, u 102, u 103, u 104, u 105, u 106, u 107, u 108, u 109, u 110, u 111, u 112, u 113, u 114, u 115, u 116, u 117, u 118, u 119, u 120, u 121, u 122, u 123, u 124, u 125, u 126, u 127, u 128, u 129, u 130, u 131, u 132, u 133, u 134, u 135, u 136, u 137, u 138, u 139, u 140, u 141, u 142, u 143, u 144, u 145, u 146, u 147, u 148, u 149, u 150, u 151, u 152, u 153, u 154, u 155, u 156, u 157, u 158, u 159, u 160, u 161, u 162, u 163, u 164, u 165, u 166, u 167, u 168, u 169, u 170, u 171, u 172, u 173, u 174, u 175, u 176, u 177, u 178, u 179, u 180, u 181, u 182, u 183, u 184, u 185, u 186, u 187, u 188, u 189, u 190, u 191, u 192, u 193, u 194, u 195, u 196, u 197, u 198, u 199, u 200, u 201, u 202, u 203], defers := [] }) (fun a' _ => n - (intOf (a'.tmps.getD 8 undef)).toNat) rfl ?_ ?_
        · rintro a' w' ⟨done, todo, p, off, hM', hL, hE, hD, hB, u, rfl⟩
          obtain ⟨hseg, hnext⟩ := tail_next hL.out
          obtain ⟨f59, fbl, fkey, f61, fval⟩ := seg_parts hseg
          have hlen := hE.out
          rw [show tailOf bl (p :: todo) = seg bl p ++ tailOf bl todo from rfl, List.length_append, seg_len] at hlen
          rw [seg_len] at hnext
          obtain ⟨kl, hkl⟩ : ∃ kl, p.1.length = kl := ⟨_, rfl⟩
          obtain ⟨vl, hvl⟩ : ∃ vl, p.2.length = vl := ⟨_, rfl⟩
          obtain ⟨rl, hrl⟩ : ∃ rl, (tailOf bl todo).length = rl := ⟨_, rfl⟩
          rw [hkl] at f61 fval
          rw [hkl, hvl] at hnext hlen
          rw [hrl] at hlen
          have Fbl := hide fbl
          have Fkey := hide fkey
          have Fval := hide fval
          have F61 := hide f61
          have Hnext := hide hnext
          have Hkl := hide hkl
          have Hvl := hide hvl
          have Hrl := hide hrl
          have hoff : off + 2 + bl + kl + vl + rl = n := by omega
          have Hck := hide (hcp p (by rw [← hD.out]; simp)).1
          have Hcv := hide (hcp p (by rw [← hD.out]; simp)).2.1
          have hk0 : 0 < kl := by rw [← Hkl.out]; exact (hcp p (by rw [← hD.out]; simp)).2.2.1
          have hv0 : 0 < vl := by rw [← Hvl.out]; exact (hcp p (by rw [← hD.out]; simp)).2.2.2
          clear hseg f59 fbl fkey f61 fval hnext hkl hvl hrl hlen
          go_wp2
          go_loopg [8] bl (fun gk iv wr => ∃ t : Nat, bl - t ≤ gk ∧ t ≤ bl ∧ iv = .int .i64 ((off + 1 + t : Nat) : Int) ∧ w' = wr)
          case atStart => exact ⟨0, by omega, by omega, by go_num, rfl⟩
          case round =>
            obtain ⟨t, hgt, htb, rfl, rfl⟩ := hrel
            by_cases ht : t < bl
            · have hy := Fbl.out t ht
              obtain ⟨J, hJ⟩ : ∃ J, off + 1 + t = J := ⟨_, rfl⟩
              rw [hJ] at hy ⊢
              have hJn : (J : Int) < (n : Int) := by omega
              have hJl : J < l.length := by have := Hn.out; omega
              have hv := str_val hJl hy
              clear hy
              go_wp2
              go_roundg (bl - (t + 1))
              case rel => exact ⟨t + 1, Nat.le_refl _, by omega, by go_num, rfl⟩
              case measure => omega
            · obtain rfl : t = bl := by omega
              obtain ⟨k0, hk0⟩ : ∃ x, p.1[0]? = some x := ⟨_, List.getElem?_eq_getElem (by have := Hkl.out; omega)⟩
              have hy := Fkey.out.at_ hk0
              rw [Nat.add_zero] at hy
              obtain ⟨J, hJ⟩ : ∃ J, off + 1 + t = J := ⟨_, rfl⟩
              obtain ⟨r1, r2, r3⟩ := clean_at Hck.out hk0
              rw [hJ] at hy ⊢
              have hJn : (J : Int) < (n : Int) := by omega
              have hJl : J < l.length := by have := Hn.out; omega
              have hv := str_val hJl hy
              clear hy hk0
              go_wp2
              clear hv r1 r2 r3 hJl hJn
              go_loopg [8] kl (fun gk iv wr => ∃ q : Nat, kl - q ≤ gk ∧ q ≤ kl ∧ iv = .int .i64 ((J + q : Nat) : Int) ∧ w' = wr)
              case atStart => exact ⟨0, by omega, by omega, by go_num, rfl⟩
              case round =>
                obtain ⟨q, hgq, hqk, rfl, rfl⟩ := hrel
                by_cases hq : q < kl
                · obtain ⟨x, hx⟩ : ∃ x, p.1[q]? = some x := ⟨_, List.getElem?_eq_getElem (by have := Hkl.out; omega)⟩
                  have hy := Fkey.out.at_ hx
                  obtain ⟨r1, r2, r3⟩ := clean_ne Hck.out hx
                  obtain ⟨M, hM⟩ : ∃ M, J + q = M := ⟨_, rfl⟩
                  rw [hJ, hM] at hy
                  rw [hM]
                  have hJn : (M : Int) < (n : Int) := by omega
                  have hJl : M < l.length := by have := Hn.out; omega
                  have hv := str_val hJl hy
                  clear hy hx
                  go_wp2
                  go_roundg (kl - (q + 1))
                  case rel => exact ⟨q + 1, Nat.le_refl _, by omega, by go_num, rfl⟩
                  case measure => omega
                · obtain rfl : q = kl := by omega
                  have hy := F61.out
                  obtain ⟨M, hM⟩ : ∃ M, J + q = M := ⟨_, rfl⟩
                  rw [hJ, hM] at hy
                  rw [hM]
                  have hJn : (M : Int) < (n : Int) := by omega
                  have hJl : M < l.length := by have := Hn.out; omega
                  have hv := str_val hJl hy
                  clear hy
                  have hcutK := str_cut Fkey.out (M := M) (by rw [Hkl.out, hJ]; exact hM)
                  rw [hJ] at hcutK
                  go_wp2
                  go_loopg [8] 1 (fun gk iv wr => iv = .int .i64 (M : Int) ∧ w' = wr)
                  case atStart => exact ⟨rfl, rfl⟩
                  case round =>
                    obtain ⟨rfl, rfl⟩ := hrel
                    go_wp2
                    clear hv hJn hJl
                    obtain ⟨v0, hv0'⟩ : ∃ x, p.2[0]? = some x := ⟨_, List.getElem?_eq_getElem (by have := Hvl.out; omega)⟩
                    have FvalM := Fval.out
                    rw [hJ, hM] at FvalM
                    have Fval2 := hide FvalM
                    have hy := FvalM.at_ hv0'
                    rw [Nat.add_zero] at hy
                    obtain ⟨r1, r2, r3⟩ := clean_at Hcv.out hv0'
                    obtain ⟨S, hS⟩ : ∃ S, M + 1 = S := ⟨_, rfl⟩
                    rw [hS] at hy
                    have hJn : (S : Int) < (n : Int) := by omega
                    have hJl : S < l.length := by have := Hn.out; omega
                    have hv := str_val hJl hy
                    clear hy hv0' FvalM
                    go_loopg [8] 1 (fun gk iv wr => iv = .int .i64 (S : Int) ∧ w' = wr)
                    case atStart => exact ⟨by rw [← hS]; go_num, rfl⟩
                    case round =>
                      obtain ⟨rfl, rfl⟩ := hrel
                      go_wp2
                      clear hv hJn hJl r1 r2 r3
                      go_loopg [8] vl (fun gk iv wr => ∃ q2 : Nat, vl - q2 ≤ gk ∧ q2 ≤ vl ∧ iv = .int .i64 ((S + q2 : Nat) : Int) ∧ w' = wr)
                      case atStart => exact ⟨0, by omega, by omega, by go_num, rfl⟩
                      case round =>
                        obtain ⟨q2, hgq2, hqk2, rfl, rfl⟩ := hrel
                        by_cases hq2 : q2 < vl
                        · obtain ⟨x, hx⟩ : ∃ x, p.2[q2]? = some x := ⟨_, List.getElem?_eq_getElem (by have := Hvl.out; omega)⟩
                          have hy := Fval2.out.at_ hx
                          obtain ⟨r1, r2, r3⟩ := clean_ne Hcv.out hx
                          obtain ⟨Z, hZ⟩ : ∃ Z, S + q2 = Z := ⟨_, rfl⟩
                          rw [hS, hZ] at hy
                          rw [hZ]
                          have hJn : (Z : Int) < (n : Int) := by omega
                          have hJl : Z < l.length := by have := Hn.out; omega
                          have hv := str_val hJl hy
                          clear hy hx
                          go_wp2
                          go_roundg (vl - (q2 + 1))
                          case rel => exact ⟨q2 + 1, Nat.le_refl _, by omega, by go_num, rfl⟩
                          case measure => omega
                        · obtain rfl : q2 = vl := by omega
                          obtain ⟨Z, hZ⟩ : ∃ Z, S + q2 = Z := ⟨_, rfl⟩
                          rw [hZ]
                          have hcutV := str_cut Fval2.out (M := Z) (by rw [Hvl.out, hS]; exact hZ)
                          rw [hS] at hcutV
                          have hZo : off + (2 + t + q + q2) = Z := by omega
                          have hZl : Z ≤ l.length := by have := Hn.out; omega
                          have hSZ : S ≤ Z := by omega
                          have Hnx := hide (show Lies l Z (tailOf t todo) by have := Hnext.out; rwa [hZo] at this)
                          have hpl : done.length ≤ 1000 := hdl _ hD.out
                          have hpn : p.1 ∉ done.map (·.1) := hdn _ _ _ hD.out
                          obtain ⟨w5, hrun, hM5, hg5⟩ := hM'.out.put p.1 p.2 (by have := Hkl.out; omega) (by have := Hvl.out; omega) hpl hpn
                          have Hrun := hide hrun
                          have HM5 := hide hM5
                          have hb5 := hide (hB.out.grown hg5 hB.out.size (fun k e => by injection e with e; omega))
                          clear hrun hM5 hg5
                          cases todo with
                          | nil =>
                            have hZn : ¬ (Z : Int) < (n : Int) := by have h1 : (tailOf t ([] : List Ent)).length = rl := Hrl.out; simp [tailOf] at h1; omega
                            go_wp2_with ((with_reducible refine wpList_mapUpdate_run Hrun.out _ _ _ ?_ rfl ?_ ?_ ?_ ?_); (rfl); (rfl); (rfl); (rfl))
                            try go_frame
                            go_loopg [8] 1 (fun gk iv wr => iv = .int .i64 (Z : Int) ∧ w5 = wr)
                            case atStart => exact ⟨rfl, rfl⟩
                            case round =>
                              obtain ⟨rfl, rfl⟩ := hrel
                              go_wp2
                              (try simp only [Exit.jump, Exit.inBlock, Exit.then])
                              go_wp2
                              go_ret2
                              exact ⟨w.heap.size, rfl, done ++ [p], hD.out, HM5.out, hb5.out, Nat.le_refl _⟩
                          | cons p' todo' =>
                            have hy := Hnx.out.at_ (j := 0) tail_head
                            rw [Nat.add_zero] at hy
                            have hJl : Z < l.length := (List.getElem?_eq_some_iff.1 hy).1
                            have hJn : (Z : Int) < (n : Int) := by have := Hn.out; omega
                            have hv := str_val hJl hy
                            clear hy
                            go_wp2_with ((with_reducible refine wpList_mapUpdate_run Hrun.out _ _ _ ?_ rfl ?_ ?_ ?_ ?_); (rfl); (rfl); (rfl); (rfl))
                            try go_frame
                            go_loopg [8] 1 (fun gk iv wr => iv = .int .i64 (Z : Int) ∧ w5 = wr)
                            case atStart => exact ⟨rfl, rfl⟩
                            case round =>
                              obtain ⟨rfl, rfl⟩ := hrel
                              go_wp2
                              go_step3
                              refine ⟨rfl, ⟨done ++ [p], todo', p', Z, HM5, Hnx, ?_, ?_, hb5, fr_ex _ _ rfl⟩, ?_⟩
                              · have := Hrl.out; show Z + (tailOf t (p' :: todo')).length = n; omega
                              · show (done ++ [p]) ++ p' :: todo' = p0 :: ps; rw [← hD.out]; simp
                              · simp [intOf]; omega
        · intro again
          go_wp2
          go_step3
          simp only [Exit.then]
          rename_i hK
          refine hK _ _ ?_
          refine again _ _ ?_
          exact ⟨[], ps, p0, i, MapHas.new w, Hlt, Hend, rfl, (Below.refl _ _).alloc (Nat.le_refl _) _, fr_ex _ _ rfl⟩
end Go.Proofs.Ytndoaeipcdcahaa
