/- The thin package's replacement of entities. Conditions: names and texts as tested; the text shorter than 2^31 - 8. -/
import Derived.Test.YtnepjlfkbmindaaDoorSqR
import Derived.Test.YtnepjlfkbmindaaDoorTblW
import Derived.Test.YtnepjlfkbmindaaDoorCopy
import Derived.Test.YtnepjlfkbmindaaDoorPcA
namespace Go.Proofs.YtnepjlfkbmindaaDoor
open Go.RowKit
set_option linter.unusedVariables false
set_option linter.unusedSimpArgs false

def IRpRet (due : List UInt8) (w : World) (e : Ending) (w' : World) : Prop := ∃ n A c, e = .returned (.slice A n c) ∧ BS w' A due ∧ due.length = n ∧ Below w.heap.size w w'
theorem ctx_of {w w1 w2 : World} {B : Nat} {ns ts : List (List UInt8)} {A3 : Option Addr} {tv : List Value} (hv : Vals w A3 ts tv) (hne : ∀ (i : Nat) (y : List UInt8), ts[i]? = some y → 0 < y.length) (hm : MapS w2 B (ns.zip tv)) (hB : w1.heap.size ≤ B) (hb : Below w.heap.size w w2) (hlt : w.heap.size < w1.heap.size) (hl : ns.length = ts.length) :
    Ctx w2 B w.heap.size (ns.zip ts) := by
  refine ⟨⟨_, hm, fun p hp => ?_⟩, by omega⟩
  obtain ⟨j, hj⟩ := List.getElem?_of_mem hp
  obtain ⟨x, y⟩ := p
  rw [List.getElem?_zip_eq_some] at hj
  obtain ⟨b, o, R, rc, _, _, _, hbs, htv, _⟩ := hv.2 j y hj.2
  refine ⟨R, rc, List.mem_of_getElem? (i := j) (by rw [List.getElem?_zip_eq_some]; exact ⟨hj.1, htv⟩), hbs.below hb, fun k hk => ?_⟩
  obtain ⟨b', o', e, hlt', _⟩ := hbs.form (hne j y hj.2)
  rw [e] at hk
  have hk : b' = k := Option.some.inj hk
  omega
/-- The table, behind the copy. -/
theorem table_ctx (A2 A3 : Option Addr) (c2 c3 n nn : Nat) (l : List UInt8) (ns ts : List (List UInt8)) (tv : List Value) (w w1 : World) (hn : l.length = n) (hb : n ≤ 2147483640) (h2 : LL w A2 ns) (hv : Vals w A3 ts tv) (hns : ns.length = nn) (hts : ts.length = nn) (he : EntsOk ns ts)
    (hne : ∀ (i : Nat) (y : List UInt8), ts[i]? = some y → 0 < y.length) (h10 : nn ≤ 10) (hb8 : Blk8 w1 w.heap.size l) (hB1 : Below w.heap.size w w1) :
    Calls Tryd.prog 18 #[.slice A2 nn c2, .slice A3 nn c3] w1 fun e w2 => ∃ B, e = .returned (.map (some B)) ∧ OwnB w2 w.heap.size (some ⟨w.heap.size, 0, none⟩) n n l ∧ Ctx w2 B w.heap.size (ns.zip ts) ∧ Below w.heap.size w w2 := by
  have hlt1 := hb8.lt
  have hv1 : Vals w1 A3 ts tv := ⟨hv.1, fun i x hx => by
    obtain ⟨b, o, R, rc, e1, e2, e3, e4, e5, e6⟩ := hv.2 i x hx
    exact ⟨b, o, R, rc, e1, (hB1.cell (block_lt_of_cell e2)).trans e2, e3, e4.below hB1, e5, e6⟩⟩
  refine (table_any A2 A3 ns ts tv c2 c3 nn w1 (h2.below hB1) hv1 hns hts h10 he.1.2.1 (fun x hx => (he.1.1 x hx).2.1)).mono ?_
  rintro e w2 ⟨B, rfl, hBw, hmap, hB2⟩
  have hbel : Below w.heap.size w w2 := hB1.trans (hB2.mono hB1.size)
  have hown0 := OwnB.ofBlk (base := w.heap.size) hb8 (Nat.le_refl _) (by simp only [maxLen]; omega)
  rw [hn] at hown0
  exact ⟨B, rfl, hown0.below hB2, ctx_of hv hne hmap hBw hbel hlt1 (by rw [hns, hts]), hbel⟩
set_option maxHeartbeats 1000000 in
theorem irep_any (A A2 A3 : Option Addr) (c c2 c3 n nn : Nat) (l due : List UInt8) (its : List It) (ns ts : List (List UInt8)) (b : Bool) (w : World) (bs : BS w A l) (hn : l.length = n) (hb : n ≤ 2147483640) (h2 : LL w A2 ns) (h3 : LL w A3 ts) (hns : ns.length = nn) (hts : ts.length = nn)
    (he : EntsOk ns ts) (hd : Todo (ns.zip ts) l 0 its due) (ht : WsTab w) (hnl : NlTab w) :
    Calls Tryd.prog 9 #[.slice A n c, .slice A2 nn c2, .slice A3 nn c3, .bool b] w (IRpRet (if b then sq due else due) w) := by
  have hne : ∀ (i : Nat) (y : List UInt8), ts[i]? = some y → 0 < y.length := fun i y hy => by
    obtain ⟨x, hx⟩ : ∃ x, ns[i]? = some x := ⟨_, List.getElem?_eq_getElem (by have := (List.getElem?_eq_some_iff.1 hy).1; omega)⟩
    exact (he.2.2 i x y hx hy).one
  obtain ⟨tv, hv⟩ := vals_of h3 hne
  have hnt := nt_ok he
  have h10 : nn ≤ 10 := by have := he.1.2.2; omega
  have hw1 : w.heap.size ≠ 0 := by have := ht.lt; omega
  have hw2 : w.heap.size ≠ 1 := by have := hnl.lt; omega
  have Hv := hide hv
  have Hne := hide hne
  have He := hide he
  have Hnt := hide hnt
  have Hd := hide hd
  have Ht := hide ht
  have Hnl := hide hnl
  have H2 := hide h2
  have Hns := hide hns
  have Hts := hide hts
  have Hn := hide hn
  have Hbs := hide bs
  have HW := hide (And.intro hw1 hw2)
  clear hv hne he hnt hd ht hnl h2 h3 hns hts hn bs hw1 hw2
  have hcopy := copy_any A l c w Hbs.out (by have := Hn.out; omega)
  rw [Hn.out] at hcopy
  have Hcopy := hide hcopy
  clear hcopy
  cases b
  all_goals
    go_enter Tryd.func9, Tryd.ntmps9
    go_wp2_with (first
      | (go_at_call 17; (with_reducible refine Hcopy.out.mono ?_); rintro e w1 ⟨rfl, hb8, hB1⟩)
      | (go_at_call 18; (with_reducible refine (table_ctx A2 A3 c2 c3 n nn l ns ts tv w _ Hn.out hb H2.out Hv.out Hns.out Hts.out He.out Hne.out h10 hb8 hB1).mono ?_); rintro e w2 ⟨B, rfl, hown, hcx, hbel⟩)
      | (go_at_call 19; (with_reducible refine (reps_any w.heap.size n n B w.heap.size l due its (ns.zip ts) _ hown Hd.out Hnt.out hcx (by omega)).mono ?_); rintro e w3 ⟨m, A', c', rfl, hbs3, hlen3, hg3⟩)
      | (go_at_call 16; (with_reducible refine (sqr_any w.heap.size n n B w.heap.size l due its (ns.zip ts) _ hown Hd.out Hnt.out hcx hb (Ht.out.below hbel) (Hnl.out.below hbel) HW.out.1 HW.out.2).mono ?_); rintro e w3 ⟨m, A', c', rfl, hbs3, hlen3, hg3⟩))
    go_ret
    exact ⟨m, A', c', rfl, hbs3, hlen3, hbel.grown hg3 hbel.size (fun k hk => by injection hk with hk; omega)⟩
end Go.Proofs.YtnepjlfkbmindaaDoor
