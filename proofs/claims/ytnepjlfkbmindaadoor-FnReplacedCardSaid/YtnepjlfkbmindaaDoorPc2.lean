/- The reference's pieces that are written by a number, and those with a name. Conditions: as for the others. -/
import Derived.Test.YtnepjlfkbmindaaDoorPc
import Derived.Test.YtnepjlfkbmindaaDoorSnoc
import Derived.ArgAppend
import Derived.Deep.RegionLaw
namespace Go.Proofs.YtnepjlfkbmindaaDoor
open Go.RowKit
set_option linter.unusedVariables false
set_option linter.unusedSimpArgs false

theorem addr_add0 (b o j : Nat) : (⟨b, o, none⟩ : Addr).add j = ⟨b, o + j, none⟩ := by
  unfold Addr.add
  split
  · rename_i h0; subst h0; rfl
  · rfl
theorem BS.news {w : World} {b o : Nat} {m : List UInt8} (h : BS w (some ⟨b, o, none⟩) m) : ∀ j u, (m.map bv)[j]? = some u → w.cell? ((⟨b, o, none⟩ : Addr).add j) = some u := fun j u hj => by
  obtain ⟨hj1, hj2⟩ := List.getElem?_eq_some_iff.1 hj
  have hj3 : j < m.length := by simpa using hj1
  obtain ⟨b', o', e, hc⟩ := h j hj3
  simp only [Option.some.injEq, Addr.mk.injEq, and_true] at e
  obtain ⟨rfl, rfl⟩ := e
  rw [addr_add0, hc, ← hj2]
  simp
/-- An append to a slice that has no room: a new row. -/
theorem app_grow {w : World} {b o n c k d : Nat} {B : Option Addr} {l m : List UInt8} (h : BS w (some ⟨b, o, none⟩) l) (hn : l.length = n) (bs : BS w B m) (hk : m.length = k) (h0 : 0 < k) (hg : c < n + k) (hl : n + k ≤ 4294967296) :
    ∃ A' c' w', (Builtin.append_ #[26, 26] 26 #[.slice (some ⟨b, o, none⟩) n c, .slice B k d]).run Tryd.prog w = .ok (.slice A' (n + k) c') w' ∧ OwnB w' w.heap.size A' (n + k) c' (l ++ m) ∧ Below w.heap.size w w' := by
  subst hn hk
  obtain ⟨i, hi, hz0, hz1, hz2⟩ := info_parts u8_info
  obtain ⟨b', o', rfl, _, _⟩ := bs.form h0
  obtain ⟨v', w', hrun, hown, hg⟩ := run_append_arg_grows (P := Tryd.prog) (w := w) 26 26 5 i (.int .u8 0) 1 1 Tryd.underlying26 hi hz0 hz1 hz2 rfl (by omega) ⟨b, o, none⟩ l.length c (l.map bv) (by simp) h.news
    ⟨b', o', none⟩ m.length d (m.map bv) (by simp) bs.news (by omega) (by simp only [maxLen]; omega) (by omega)
  rw [← List.map_append] at hown
  obtain ⟨A', c', rfl⟩ : ∃ A' c', v' = .slice A' (l.length + m.length) c' := by
    rcases hown.2 with ⟨e, hn⟩ | ⟨g, cap, cur, e, _⟩
    · exact ⟨none, 0, by rw [e, hn]⟩
    · exact ⟨_, _, e⟩
  exact ⟨A', c', w', hrun, ⟨by simp, hown⟩, (Below.refl _ _).grown hg (Nat.le_refl _) (fun k hk => by cases hk)⟩
theorem letter_of (kn : Nat) : ∃ ch : UInt8, isSmall ch ∧ 97 + (kn : Int) / 4 % 26 = (ch.toNat : Int) := by
  refine ⟨UInt8.ofNat (97 + kn / 4 % 26), ?_, ?_⟩
  · unfold isSmall
    rw [UInt8.toNat_ofNat']
    omega
  · rw [UInt8.toNat_ofNat']
    omega
set_option maxRecDepth 100000 in
set_option maxHeartbeats 1000000 in
theorem piece2 (kn : Nat) (A1 A2 A3 : Option Addr) (c1 c2 c3 nw nn : Nat) (nt : NT) (W0 w : World) (hk : (kn : Int) ≤ 9223372036854775807) (h4 : kn % 4 = 2) :
    Calls Tryd.prog 6 #[.int .i64 (kn : Int), .slice A1 nw c1, .slice A2 nn c2, .slice A3 nn c3] w (PcRet nt W0 w) := by
  have e0 : ((kn : Int) % 4 == 0) = false := by rw [beq_eq_false_iff_ne]; omega
  have e1 : ((kn : Int) % 4 == 1) = false := by rw [beq_eq_false_iff_ne]; omega
  have e2 : ((kn : Int) % 4 == 2) = true := by rw [beq_iff_eq]; omega
  obtain ⟨ch, hch, hchI⟩ := letter_of kn
  have h256 := ch.toNat_lt
  have h122 := hch.2
  have Hch := hide hch
  have kc := fun n c C => run_bytes_lit (P := Tryd.prog) 26 5 Tryd.underlying26 Tryd.underlying5 w w.heap.size n c C rfl
  clear h4 hch
  go_enter Tryd.func6, Tryd.ntmps6
  go_wp2_with (first
    | (go_at_call 14; (with_reducible refine (decimal_any ch.toNat _ (by omega)).mono ?_); rintro e w2 ⟨A', c', rfl, own, hB⟩
       have hb0 : BS w2 (some ⟨w.heap.size, 0, none⟩) [38, 35] := (BS.lit rfl [38, 35] _ _ _ rfl).below hB
       have hds := dec_small Hch.out
       obtain ⟨A3', d3, w3, run3, own3, hB3⟩ := app_grow (n := 2) (c := 2) (d := c') hb0 rfl own.bs rfl (by omega) (by omega) (by omega)
       obtain ⟨A4', d4, w4, run4, own4, hB4⟩ := snoc8 own3 hB3 59 (by omega)
       have Hbel : Hid (Below w.heap.size w w4) := hide (((Below.refl _ _).alloc (Nat.le_refl _) _).trans ((hB.mono (by simp)).trans (hB4.mono (Nat.le_trans (by simp) hB.size))))
       have R3 := hide run3
       have R4 := hide run4
       have O4 := hide own4
       have Hds := hide hds
       clear run3 run4 own4 own3 hB3 hB4 hB hb0 own hds)
    | (at_builtin; (with_reducible refine wpList_append_runG R3.out _ _ ?_ rfl rfl ?_ ?_ ?_); (rfl); (rfl); (rfl))
    | (at_builtin; (with_reducible refine wpList_append_runG R4.out _ _ ?_ rfl rfl ?_ ?_ ?_); (rfl); (rfl); (rfl)))
  go_ret3
  have he : IsEnt nt (38 :: 35 :: (dec ch.toNat ++ [59])) [ch] := .dec ch Hch.out
  obtain ⟨q1, q2, q3⟩ := one_ent he
  have hlist : [38, 35] ++ dec ch.toNat ++ [59] = 38 :: 35 :: (dec ch.toNat ++ [59]) := by simp
  have hbs := O4.out.bs
  have hln := O4.out.len
  rw [hlist] at hbs hln
  refine ⟨A4', _, _, d4, 1, 1, true, rfl, Hbel.out.trans ((Below.refl _ _).alloc Hbel.out.size _), fun _ => ⟨[.ent _ [ch]], by rw [q1]; exact hbs.alloc _, by rw [q1]; exact hln, by have := Hds.out.2.1; omega, by rw [q2]; exact BS.lit rfl [ch] _ _ _ rfl, by rw [q2]; rfl, by omega, q3, .inr (fun k hk => by have hk : w4.heap.size = k := Option.some.inj hk; have := Hbel.out.size; omega)⟩⟩
end Go.Proofs.YtnepjlfkbmindaaDoor
