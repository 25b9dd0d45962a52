/- The reference's pieces that are entities with a name. Conditions: as for the others. -/
import Derived.Test.YtnepjlfkbmindaaDoorPc3
namespace Go.Proofs.YtnepjlfkbmindaaDoor
open Go.RowKit
set_option linter.unusedVariables false
set_option linter.unusedSimpArgs false

/-- One append as a step of a region that draws its order. -/
theorem step_app {ops : Array Oper} {o : Oper} {a : Act} {w w0 : World} {K : Act → World → Prop} {Q : Exit → Act → World → Prop} {E : Prop} {n c m d : Nat} {A B : Option Addr} {l lm : List UInt8}
    (s x : Operand) (hw : Region.wanted o (yielded ops a.tmps) = true) (hty : o.type = 26)
    (ho : o.op = .call { callee := .builtin .append, args := #[s, x], argTypes := #[26, 26] }) (hs : a.eval s = .slice A n c) (hx : a.eval x = .slice B m d)
    (own : OwnB w w0.heap.size A n c l) (hb : Below w0.heap.size w0 w) (bs : BS w B lm) (hm : lm.length = m) (hN : n + m ≤ 4294967296)
    (hK : ∀ A' c' w', OwnB w' w0.heap.size A' (n + m) c' (l ++ lm) → w.grownBy w' (blk A) → Below w0.heap.size w0 w' → K (a.put o.dst (.slice A' (n + m) c')) w') :
    if Region.wanted o (yielded ops a.tmps) = true then Oper.wp Tryd.prog o a w K Q else E := by
  obtain ⟨A', c', w', hrun, own', hg, _⟩ := run_append8 (P := Tryd.prog) 26 26 Tryd.underlying26 u8_info own bs m d hm hN hb.size
  exact step_append_runG hrun s x hw hty ho hs hx (hK A' c' w' own' hg (own.bel hb hg hb.size))
set_option maxRecDepth 100000 in
set_option maxHeartbeats 8000000 in
theorem piece1 (kn : Nat) (A1 A2 A3 : Option Addr) (c1 c2 c3 nw nn : Nat) (ns ts : List (List UInt8)) (nt : NT) (W0 w : World) (hk : (kn : Int) ≤ 9223372036854775807) (h4 : kn % 4 = 1) (hw : 0 < nn) (h20 : LL W0 A2 ns) (h30 : LL W0 A3 ts) (hB0 : Below W0.heap.size W0 w) (hn : ns.length = nn) (ht : ts.length = nn)
    (hnt : ∀ (i : Nat) (x y : List UInt8), ns[i]? = some x → ts[i]? = some y → (x, y) ∈ nt ∧ x.length ≤ 30 ∧ y.length ≤ 30) :
    Calls Tryd.prog 6 #[.int .i64 (kn : Int), .slice A1 nw c1, .slice A2 nn c2, .slice A3 nn c3] w (PcRet nt W0 w) := by
  obtain ⟨j, hj⟩ : ∃ j, kn / 4 % nn = j := ⟨_, rfl⟩
  have hjn : j < nn := by rw [← hj]; exact Nat.mod_lt _ hw
  have hjI : (kn : Int) / 4 % (nn : Int) = (j : Int) := by rw [← hj]; simp
  have e0 : ((kn : Int) % 4 == 0) = false := by rw [beq_eq_false_iff_ne]; omega
  have e1 : ((kn : Int) % 4 == 1) = true := by rw [beq_iff_eq]; omega
  have ez : ((nn : Int) == 0) = false := by rw [beq_eq_false_iff_ne]; omega
  obtain ⟨x, hx⟩ : ∃ d, ns[j]? = some d := ⟨_, List.getElem?_eq_getElem (by omega)⟩
  obtain ⟨y, hy⟩ : ∃ d, ts[j]? = some d := ⟨_, List.getElem?_eq_getElem (by omega)⟩
  have h2 := h20.below hB0
  obtain ⟨b1, o1, X, cx, rfl, hcx, hxc, hbx⟩ := h2 j x hx
  obtain ⟨b2, o2, Y, cy, rfl, hcy0, hyc, hby0⟩ := h30 j y hy
  have hcy := (hB0.cell (block_lt_of_cell hcy0)).trans hcy0
  have hby := hby0.below hB0
  have Hby0 := hide hby0
  clear hcy0 hby0 h20 h30
  obtain ⟨hmem, hx30, hy30⟩ := hnt j x y hx hy
  obtain ⟨nx, hnx⟩ : ∃ q, x.length = q := ⟨_, rfl⟩
  obtain ⟨ny, hny⟩ : ∃ q, y.length = q := ⟨_, rfl⟩
  rw [hnx] at hcx hxc hx30
  rw [hny] at hcy hyc hy30
  have Hnx := hide hnx
  have Hny := hide hny
  have Hbx := hide hbx
  have Hby := hide hby
  have Hmem := hide hmem
  have Hcy := hide hcy
  have hlx := block_lt_of_cell hcx
  have hly := block_lt_of_cell hcy
  have hnw : ¬ ((nn : Int) = 0) := by omega
  have hjnI : (j : Int) < (nn : Int) := by omega
  have hj0 : (0 : Int) ≤ (j : Int) := by omega
  clear hx hy hnx hny hj h4 hmem hbx hby h2 hnt
  go_enter Tryd.func6, Tryd.ntmps6
  go_wp2
  go_region_law (first
    | ((with_reducible refine step_app (w0 := w) (A := some ⟨w.heap.size, 0, none⟩) (n := 1) (c := 1) (B := X) (d := cx) (m := nx) (l := [38]) (lm := x) _ _ ?_ rfl rfl ?_ ?_ ?_ ?_ ?_ Hnx.out ?_ ?_); (rfl); (rfl); (rfl); ((repeat (first | exact OwnB.lit (by first | exact Nat.le_refl _ | (simp; done) | (simp [World.drew]; done)) (by first | rfl | (simp; done) | (simp [World.drew]; done)) [38] 1 _ rfl (by omega) rfl | (with_reducible refine OwnB.drew ?_) | (with_reducible refine OwnB.alloc ?_ _)))); ((repeat (first | (with_reducible exact Hny.out) | (with_reducible exact Below.refl _ _) | (with_reducible refine below_drew ?_) | (with_reducible refine below_alloc ?_ _)))); ((repeat (first | (with_reducible exact Hbx.out) | (with_reducible refine BS.drew ?_) | (with_reducible refine BS.alloc ?_ _)))); (omega)
       (intro A7 d7 w7 own7 g7 hb7; have cy7 := (hb7.cell (block_lt_of_cell Hcy.out)).trans Hcy.out; have hly7 := block_lt_of_cell cy7; try have lit7 : BS w7 (some ⟨w.heap.size + 1, 0, none⟩) [59] := BS.grown (by (first | (exact BS.lit (by first | rfl | (simp; done) | (simp [World.drew]; done)) [59] _ _ _ rfl) | ((with_reducible refine BS.drew ?_); (exact BS.lit (by first | rfl | (simp; done) | (simp [World.drew]; done)) [59] _ _ _ rfl)) | ((with_reducible refine BS.alloc ?_ _); (exact BS.lit (by first | rfl | (simp; done) | (simp [World.drew]; done)) [59] _ _ _ rfl)) | ((with_reducible refine BS.alloc ?_ _); (with_reducible refine BS.drew ?_); (exact BS.lit (by first | rfl | (simp; done) | (simp [World.drew]; done)) [59] _ _ _ rfl)) | ((with_reducible refine BS.drew ?_); (with_reducible refine BS.alloc ?_ _); (exact BS.lit (by first | rfl | (simp; done) | (simp [World.drew]; done)) [59] _ _ _ rfl)) | ((with_reducible refine BS.alloc ?_ _); (with_reducible refine BS.alloc ?_ _); (exact BS.lit (by first | rfl | (simp; done) | (simp [World.drew]; done)) [59] _ _ _ rfl)))) g7 (fun k hk e => by have hk : w.heap.size + 1 = k := Option.some.inj hk; have e : w.heap.size = k := Option.some.inj e; omega)))
    | ((with_reducible refine step_app (w0 := w) (A := some ⟨w.heap.size + 1, 0, none⟩) (n := 1) (c := 1) (B := X) (d := cx) (m := nx) (l := [38]) (lm := x) _ _ ?_ rfl rfl ?_ ?_ ?_ ?_ ?_ Hnx.out ?_ ?_); (rfl); (rfl); (rfl); ((repeat (first | exact OwnB.lit (by first | exact Nat.le_refl _ | (simp; done) | (simp [World.drew]; done)) (by first | rfl | (simp; done) | (simp [World.drew]; done)) [38] 1 _ rfl (by omega) rfl | (with_reducible refine OwnB.drew ?_) | (with_reducible refine OwnB.alloc ?_ _)))); ((repeat (first | (with_reducible exact Hny.out) | (with_reducible exact Below.refl _ _) | (with_reducible refine below_drew ?_) | (with_reducible refine below_alloc ?_ _)))); ((repeat (first | (with_reducible exact Hbx.out) | (with_reducible refine BS.drew ?_) | (with_reducible refine BS.alloc ?_ _)))); (omega)
       (intro A7 d7 w7 own7 g7 hb7; have cy7 := (hb7.cell (block_lt_of_cell Hcy.out)).trans Hcy.out; have hly7 := block_lt_of_cell cy7; try have lit7 : BS w7 (some ⟨w.heap.size, 0, none⟩) [59] := BS.grown (by (first | (exact BS.lit (by first | rfl | (simp; done) | (simp [World.drew]; done)) [59] _ _ _ rfl) | ((with_reducible refine BS.drew ?_); (exact BS.lit (by first | rfl | (simp; done) | (simp [World.drew]; done)) [59] _ _ _ rfl)) | ((with_reducible refine BS.alloc ?_ _); (exact BS.lit (by first | rfl | (simp; done) | (simp [World.drew]; done)) [59] _ _ _ rfl)) | ((with_reducible refine BS.alloc ?_ _); (with_reducible refine BS.drew ?_); (exact BS.lit (by first | rfl | (simp; done) | (simp [World.drew]; done)) [59] _ _ _ rfl)) | ((with_reducible refine BS.drew ?_); (with_reducible refine BS.alloc ?_ _); (exact BS.lit (by first | rfl | (simp; done) | (simp [World.drew]; done)) [59] _ _ _ rfl)) | ((with_reducible refine BS.alloc ?_ _); (with_reducible refine BS.alloc ?_ _); (exact BS.lit (by first | rfl | (simp; done) | (simp [World.drew]; done)) [59] _ _ _ rfl)))) g7 (fun k hk e => by have hk : w.heap.size = k := Option.some.inj hk; have e : w.heap.size + 1 = k := Option.some.inj e; omega)))
    | ((with_reducible refine step_app (w0 := w) (A := A7) (n := 1 + nx) (c := d7) (B := some ⟨w.heap.size, 0, none⟩) (d := 1) (m := 1) (l := [38] ++ x) (lm := [59]) _ _ ?_ rfl rfl ?_ ?_ ?_ ?_ ?_ rfl ?_ ?_); (rfl); (rfl); (rfl); (with_reducible exact own7); ((repeat (first | (with_reducible exact hb7) | (with_reducible exact Below.refl _ _) | (with_reducible refine below_drew ?_) | (with_reducible refine below_alloc ?_ _)))); (first | (with_reducible exact lit7) | (with_reducible refine BS.drew ?_; with_reducible exact lit7) | (with_reducible refine BS.alloc ?_ _; with_reducible exact lit7)); (omega)
       (intro A8 d8 w8 own8 g8 hb8; have cy8 := (hb8.cell (block_lt_of_cell Hcy.out)).trans Hcy.out; have hly8 := block_lt_of_cell cy8))
    | ((with_reducible refine step_app (w0 := w) (A := A7) (n := 1 + nx) (c := d7) (B := some ⟨w.heap.size + 1, 0, none⟩) (d := 1) (m := 1) (l := [38] ++ x) (lm := [59]) _ _ ?_ rfl rfl ?_ ?_ ?_ ?_ ?_ rfl ?_ ?_); (rfl); (rfl); (rfl); (with_reducible exact own7); ((repeat (first | (with_reducible exact hb7) | (with_reducible exact Below.refl _ _) | (with_reducible refine below_drew ?_) | (with_reducible refine below_alloc ?_ _)))); (first | (with_reducible exact lit7) | (with_reducible refine BS.drew ?_; with_reducible exact lit7) | (with_reducible refine BS.alloc ?_ _; with_reducible exact lit7)); (omega)
       (intro A8 d8 w8 own8 g8 hb8; have cy8 := (hb8.cell (block_lt_of_cell Hcy.out)).trans Hcy.out; have hly8 := block_lt_of_cell cy8))
    | ((with_reducible refine step_app (w0 := w) (A := A7) (n := 1 + nx) (c := d7) (B := some ⟨w7.heap.size, 0, none⟩) (d := 1) (m := 1) (l := [38] ++ x) (lm := [59]) _ _ ?_ rfl rfl ?_ ?_ ?_ ?_ ?_ rfl ?_ ?_); (rfl); (rfl); (rfl); (repeat (first | (with_reducible exact own7) | (with_reducible refine OwnB.drew ?_) | (with_reducible refine OwnB.alloc ?_ _))); ((repeat (first | (with_reducible exact hb7) | (with_reducible exact Below.refl _ _) | (with_reducible refine below_drew ?_) | (with_reducible refine below_alloc ?_ _)))); ((first | (exact BS.lit (by first | rfl | (simp; done) | (simp [World.drew]; done)) [59] _ _ _ rfl) | ((with_reducible refine BS.drew ?_); (exact BS.lit (by first | rfl | (simp; done) | (simp [World.drew]; done)) [59] _ _ _ rfl)) | ((with_reducible refine BS.alloc ?_ _); (exact BS.lit (by first | rfl | (simp; done) | (simp [World.drew]; done)) [59] _ _ _ rfl)) | ((with_reducible refine BS.alloc ?_ _); (with_reducible refine BS.drew ?_); (exact BS.lit (by first | rfl | (simp; done) | (simp [World.drew]; done)) [59] _ _ _ rfl)) | ((with_reducible refine BS.drew ?_); (with_reducible refine BS.alloc ?_ _); (exact BS.lit (by first | rfl | (simp; done) | (simp [World.drew]; done)) [59] _ _ _ rfl)) | ((with_reducible refine BS.alloc ?_ _); (with_reducible refine BS.alloc ?_ _); (exact BS.lit (by first | rfl | (simp; done) | (simp [World.drew]; done)) [59] _ _ _ rfl)))); (omega)
       (intro A8 d8 w8 own8 g8 hb8; have cy8 := (hb8.cell (block_lt_of_cell Hcy.out)).trans Hcy.out; have hly8 := block_lt_of_cell cy8)))
  all_goals
    go_wp2
    go_ret3
    have he : IsEnt nt (38 :: (x ++ [59])) y := .name x y Hmem.out
    obtain ⟨q1, q2, q3⟩ := one_ent he
    have hlist : [38] ++ x ++ [59] = 38 :: (x ++ [59]) := by simp
    have hbs := own8.bs
    have hln := own8.len
    rw [hlist] at hbs hln
    exact ⟨A8, Y, _, d8, ny, cy, true, rfl, hb8, fun _ => ⟨[.ent _ y], by rw [q1]; exact hbs, by rw [q1]; exact hln, by omega, by rw [q2]; exact Hby.out.below hb8, by rw [q2]; exact Hny.out, by omega, q3, .inl (by rw [q2]; exact Hby0.out)⟩⟩
end Go.Proofs.YtnepjlfkbmindaaDoor
