/- The thin package's table of names and texts. Conditions: different names shorter than 2^31, as many texts, not empty; not more than ten. -/
import Derived.Test.YtnepjlfkbmindaaDoorTbl
namespace Go.Proofs.YtnepjlfkbmindaaDoor
open Go.RowKit
set_option linter.unusedVariables false
set_option linter.unusedSimpArgs false

def TblRet (ns : List (List UInt8)) (tv : List Value) (w : World) (e : Ending) (w' : World) : Prop := ∃ B, e = .returned (.map (some B)) ∧ w.heap.size ≤ B ∧ MapS w' B (ns.zip tv) ∧ Below w.heap.size w w'
set_option maxHeartbeats 1000000 in
theorem table_any (A1 A2 : Option Addr) (ns ts : List (List UInt8)) (tv : List Value) (c1 c2 n : Nat) (w : World) (h1 : LL w A1 ns) (h2 : Vals w A2 ts tv) (hn : ns.length = n) (ht : ts.length = n) (h10 : n ≤ 10) (hnd : ns.Nodup) (hle : ∀ x ∈ ns, x.length ≤ 30) :
    Calls Tryd.prog 18 #[.slice A1 n c1, .slice A2 n c2] w (TblRet ns tv w) := by
  have H1 := hide h1
  have H2 := hide h2
  have Hn := hide hn
  have Ht := hide ht
  have Hnd := hide hnd
  have Hle := hide hle
  clear h1 h2 hn ht hnd hle
  have Hm := hide (MapS.new w)
  have hmm := @run_makeMap Tryd.prog
  go_enter Tryd.func18, Tryd.ntmps18
  go_wp2
  go_loopg [13] n (fun gi iv wr => ∃ i : Nat, n - i ≤ gi ∧ i ≤ n ∧ iv = .int .i64 (i : Int) ∧ Hid (MapS wr w.heap.size ((ns.zip tv).take i)) ∧ Hid (Below w.heap.size w wr))
  case atStart => exact ⟨0, by omega, Nat.zero_le _, rfl, Hm, (Below.refl _ _).alloc (Nat.le_refl _) _⟩
  case round =>
    obtain ⟨i, hgi, hi, rfl, hm, hb⟩ := hrel
    by_cases hlt : i < n
    · obtain ⟨x, hx⟩ : ∃ d, ns[i]? = some d := ⟨_, List.getElem?_eq_getElem (by have := Hn.out; omega)⟩
      obtain ⟨y, hy⟩ : ∃ d, ts[i]? = some d := ⟨_, List.getElem?_eq_getElem (by have := Ht.out; omega)⟩
      obtain ⟨b1, o1, X1, k1, rfl, hcx, hxc, hbx⟩ := H1.out i x hx
      obtain ⟨b2, o2, Y1, m1, rfl, hcy, hyc, hby, htv, hsp⟩ := H2.out.2 i y hy
      obtain ⟨d, hd⟩ := slR_some (n := y.length) (c := m1) hsp
      have hx30 := Hle.out x (List.mem_of_getElem? hx)
      have hml := hm.out
      obtain ⟨w', hrun, hm', hg⟩ := hml.drew.put x _ (by omega) hd (by rw [List.length_take]; omega) (zipv_new (by rw [H2.out.1, Ht.out, Hn.out]) hx Hnd.out)
      rw [← zipv_succ hx htv] at hm'
      have ccx := (hb.out.cell (block_lt_of_cell hcx)).trans hcx
      have ccy := (hb.out.cell (block_lt_of_cell hcy)).trans hcy
      have kx := run_str (P := Tryd.prog) ((hbx.below hb.out).drew) k1 26 9 5 Tryd.underlying26 Tryd.underlying5 Tryd.underlying9
      have hb' : Below w.heap.size w w' := (below_drewN hb.out 1).grown hg (by have := hb.out.size; exact this) (fun k hk => by injection hk with hk; omega)
      have Hm' := hide hm'
      have Hb' := hide hb'
      have hiI : (i : Int) < (n : Int) := by omega
      have hi0 : (0 : Int) ≤ (i : Int) := by omega
      clear hx hy hby hbx htv hsp hd hml hm' hg hb' hcx hcy
      go_wp2
      go_region
      all_goals go_wp2
      all_goals (go_roundg (n - (i + 1)); (case rel => exact ⟨i + 1, Nat.le_refl _, by omega, by go_num, Hm', Hb'⟩); (case measure => omega))
    · obtain rfl : i = n := by omega
      go_wp2
      go_ret
      exact ⟨w.heap.size, rfl, Nat.le_refl _, by have := hm.out; rwa [List.take_of_length_le (by rw [List.length_zip, H2.out.1, Hn.out, Ht.out]; omega)] at this, hb.out⟩
end Go.Proofs.YtnepjlfkbmindaaDoor
