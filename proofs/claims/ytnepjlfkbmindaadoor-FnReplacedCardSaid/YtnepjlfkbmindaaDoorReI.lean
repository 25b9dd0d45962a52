/- The replacement of all entities in place. Conditions: as for one; the text shorter than 2^31. -/
import Derived.Test.YtnepjlfkbmindaaDoorItm
namespace Go.Proofs.YtnepjlfkbmindaaDoor
open Go.RowKit
set_option linter.unusedVariables false
set_option linter.unusedSimpArgs false

/-- What comes back: the row itself, with the due text. -/
def InRet (w : World) (base g c : Nat) (due : List UInt8) (e : Ending) (w' : World) : Prop := ∃ n A c', e = .returned (.slice A n c') ∧ BS w' A due ∧ due.length = n ∧ w.grownBy w' (some g)
set_option maxRecDepth 100000 in
set_option maxHeartbeats 1000000 in
theorem reps_any (g n c B base : Nat) (l due : List UInt8) (its : List It) (nt : NT) (w : World) (own : OwnB w base (some ⟨g, 0, none⟩) n c l) (hd : Todo nt l 0 its due) (hn : NtOk nt) (cx : Ctx w B g nt) (hn2 : n ≤ 2147483647) :
    Calls Tryd.prog 19 #[.slice (some ⟨g, 0, none⟩) n c, .map (some B), .map none] w (InRet w base g c due) := by
  have HN := hide hn
  have Hc := hide cx
  have Hd := hide hd
  have Hown := hide own
  clear hn cx hd own
  go_enter Tryd.func19, Tryd.ntmps19
  go_wp2
  go_loopg [0, 7] its.length (fun gk sv iv wr => ∃ (i k : Nat) (cur : List UInt8) (rest : List It), rest.length ≤ gk ∧ k ≤ 2147483647 ∧ i ≤ k ∧ sv = .slice (some ⟨g, 0, none⟩) k c ∧ iv = .int .i64 (i : Int) ∧ Hid (OwnB wr base (some ⟨g, 0, none⟩) k c cur) ∧ Hid (Todo nt cur i rest due) ∧ Hid (w.grownBy wr (some g)))
  case atStart => exact ⟨0, n, l, its, Nat.le_refl _, hn2, Nat.zero_le _, rfl, rfl, Hown, Hd, World.grownBy.refl _ _⟩
  case round =>
    obtain ⟨i, k, cur, rest, hgk, hk2, hik, rfl, rfl, ho, ht, hg⟩ := hrel
    have hlen := ho.out.len
    have hkc := ho.out.le.1
    cases rest with
    | nil =>
      obtain ⟨hi, he⟩ := ht.out.done
      obtain rfl : i = k := by omega
      subst he
      clear hi
      go_wp2
      go_ret
      exact ⟨i, _, c, rfl, ho.out.bs, hlen, hg.out⟩
    | cons it rest =>
      cases it with
      | byte x =>
        obtain ⟨h0, h38, hnext⟩ := ht.out.byte
        have cell := ho.out.cellI h0
        have hik2 : (i : Int) < (k : Int) := by have := (List.getElem?_eq_some_iff.1 h0).1; omega
        have e38 : ((x.toNat : Int) == 38) = false := by
          rw [beq_eq_false_iff_ne]
          intro e
          exact h38 (UInt8.toNat_inj.1 (Int.ofNat.inj e))
        have Hnext := hide hnext
        clear h0 hnext h38
        go_wp2
        go_roundg rest.length
        case rel => exact ⟨i + 1, k, cur, rest, Nat.le_refl _, hk2, by omega, rfl, by go_num, ho, Hnext, hg⟩
        case measure => (simp at hgk; omega)
      | ent f t =>
        obtain ⟨hl, he, hnext, hle⟩ := ht.out.ent
        obtain ⟨f4, f0, t1, tf, tan⟩ := he.facts HN.out
        have cell := ho.out.cellI (hl.at_ f0)
        rw [Nat.add_zero] at cell
        have hik2 : (i : Int) < (k : Int) := by omega
        have hik3 : (i : Int) + 3 < (k : Int) := by omega
        have hcall := rep_any g k c i B base cur f t nt _ ho.out hl he HN.out (Hc.out.grown hg.out) hk2
        have Hcall := hide hcall
        obtain ⟨tl, htl⟩ : ∃ tl, t.length = tl := ⟨_, rfl⟩
        obtain ⟨fl, hfl⟩ : ∃ fl, f.length = fl := ⟨_, rfl⟩
        have Hnext := hide hnext
        clear hcall hl he hnext f0 tan
        go_wp2_with (go_at_call 23; (with_reducible refine Hcall.out.mono ?_); rintro e w2 ⟨n', hn', rfl, own2, hg2⟩)
        have Own2 := hide own2
        have Hg2 := hide (World.grownBy.trans hg.out hg2)
        have hnn : n' ≤ 2147483647 := by omega
        clear own2 hg2
        go_wp2
        go_roundg rest.length
        case rel => exact ⟨i + t.length, n', _, rest, Nat.le_refl _, hnn, by have := Hnext.out.le; have := Own2.out.len; omega, rfl, by first | go_num | (congr 1; omega), Own2, Hnext, Hg2⟩
        case measure => (simp at hgk; omega)
end Go.Proofs.YtnepjlfkbmindaaDoor
