/- The tokens of a text in a row of the call's own: what stands at the head of the loop that gathers them, and how one more token changes it. Conditions: as for the lexer's steps. -/
import Derived.Test.YtngmdgefecebmaaDoorLxB
import Derived.Test.YtngmdgefecebmaaDoorRow
import Derived.Test.YtngmdgefecebmaaDoorSnoc
namespace Go.Proofs.YtngmdgefecebmaaDoor
open Go.RowKit
set_option linter.unusedVariables false
set_option linter.unusedSimpArgs false

/-- A token: its name, the block of its bytes, its bytes. -/
abbrev Pce := ByteArray × Nat × List UInt8
def pcells (d : Pce) : List Value := [.string d.1, .slice (some ⟨d.2.1, 0, none⟩) d.2.2.length d.2.2.length, .slice none 0 0, .slice none 0 0, .slice none 0 0, .string ⟨#[]⟩]
def pzero : Value := .agg #[.string ⟨#[]⟩, .slice none 0 0, .slice none 0 0, .slice none 0 0, .slice none 0 0, .string ⟨#[]⟩]
theorem pce_info : (Tryd.prog.info? 28).map (fun i => (i.zero, i.size, i.bytes)) = some (some pzero, 6, 128) := by kernel_rfl
theorem pcells_len (ps : List Pce) : (ps.flatMap pcells).length = ps.length * 6 := by
  induction ps with
  | nil => rfl
  | cons x r ih => rw [List.flatMap_cons, List.length_append, ih]; simp [pcells]; omega
theorem pcells_at {ps : List Pce} {i : Nat} (h : i < ps.length) (j : Nat) (hj : j < 6) : (ps.flatMap pcells)[i * 6 + j]? = (pcells ps[i])[j]? := by
  induction ps generalizing i with
  | nil => simp at h
  | cons x r ih =>
    rw [List.flatMap_cons]
    cases i with
    | zero => rw [Nat.zero_mul, Nat.zero_add, List.getElem?_append_left (by simp [pcells]; omega)]; rfl
    | succ i =>
      have := ih (i := i) (by simpa using h)
      have e1 : (i + 1) * 6 + j = 6 + (i * 6 + j) := by omega
      rw [e1, List.getElem?_append_right (by simp [pcells])]
      have e2 : 6 + (i * 6 + j) - (pcells x).length = i * 6 + j := by simp [pcells]
      rw [e2]
      simpa using this
def bytesOf (ps : List Pce) : List UInt8 := ps.flatMap (·.2.2)
theorem bytes_snoc (ps : List Pce) (d : Pce) : bytesOf (ps ++ [d]) = bytesOf ps ++ d.2.2 := by simp [bytesOf]
theorem take_sel {l : List UInt8} {p q : Nat} (h : p ≤ q) : l.take p ++ sel l p q = l.take q := by
  unfold sel
  have : q = p + (q - p) := by omega
  rw [this, List.take_add]
  simp
section
variable {w w' : World} {gl g c pos start : Nat} {A : Option Addr} {l : List UInt8}
theorem BS.kept {row : Option Nat} (h : BS w A l) (hg : w.grownBy w' row) (hA : ∀ b o, A = some ⟨b, o, none⟩ → row ≠ some b) : BS w' A l := fun i hi => by
  obtain ⟨b, o, e, hc⟩ := h i hi
  exact ⟨b, o, e, hg.cell hc (fun e2 => hA b o e e2.symm)⟩
theorem EofIs.kept {row : Option Nat} (h : EofIs w) (hg : w.grownBy w' row) (hE : row ≠ some 0) : EofIs w' := by
  obtain ⟨T, te, i, j, a, h1, h2, h3, h4, h5⟩ := h
  exact ⟨T, te, i, j, a, h1, h2, h3, h4, hg.cell h5 (fun e => hE e.symm)⟩
theorem Lx.kept {row : Option Nat} (h : Lx w gl g A c l pos start) (hg : w.grownBy w' row) (h1 : row ≠ some gl) (h2 : row ≠ some g) (h3 : ∀ b o, A = some ⟨b, o, none⟩ → row ≠ some b) (hE : row ≠ some 0) : Lx w' gl g A c l pos start :=
  ⟨⟨(hg.block g h.inp.lt (fun e => h2 e.symm)).trans h.inp.row, h.inp.bs.kept hg h3, h.inp.apart, h.inp.room⟩, (hg.block gl h.lt (fun e => h1 e.symm)).trans h.row, h.ne, h.np, h.sp, h.hl, h.nz, h.eof.kept hg hE⟩
theorem Lx.adr (h : Lx w gl g A c l pos start) : ∀ b o, A = some ⟨b, o, none⟩ → b < w.heap.size := fun b o e => by
  obtain ⟨b', o', e', hlt, _⟩ := h.inp.bs.form (by simp)
  rw [e] at e'
  injection e' with e'
  injection e' with e1 _ _
  omega
end
/-- What stands at the head of the loop. -/
structure CssRel (W : World) (gl g : Nat) (A : Option Addr) (c : Nat) (l : List UInt8) (p : Nat) (Ao : Option Addr) (k co : Nat) (ps : List Pce) (wr : World) : Prop where
  lx : Lx wr gl g A c l p p
  own : wr.ownsRow W.heap.size 28 6 (.slice Ao k co) k (ps.flatMap pcells)
  pl : ps.length = k
  kp : k ≤ p
  cat : bytesOf ps = l.take p
  dat : ∀ d ∈ ps, d.2.2 ≠ [] ∧ Blk8 wr d.2.1 d.2.2 ∧ d.2.1 ≠ g ∧ blk Ao ≠ some d.2.1
  apl : blk Ao ≠ some gl
  apg : blk Ao ≠ some g
  apA : ∀ b o, A = some ⟨b, o, none⟩ → blk Ao ≠ some b
  apE : 0 < W.heap.size
  gW : W.heap.size ≤ g
  bel : Below W.heap.size W wr
theorem CssRel.next {W wr w2 w3 w4 : World} {gl g c p q k co n : Nat} {A Ao : Option Addr} {l : List UInt8} {ps : List Pce} (h : CssRel W gl g A c l p Ao k co ps wr) (s : ByteArray) (hpq : p < q) (hk : k ≤ 100000) (hq : q - p = n)
    (hL : Lx w2 gl g A c l q q) (hg : wr.grownBy w2 (some g)) (hB3 : Below w2.heap.size w2 w3) (hD : Blk8 w4 w3.heap.size (sel l p q)) (hB4 : Below w3.heap.size w3 w4) :
    ∃ Ao' co' w5, (Builtin.append_ #[24, 24] 24 #[.slice Ao k co, .slice (some ⟨w4.heap.size, 0, none⟩) 1 1]).run Tryd.prog (w4.alloc (.cells #[.string s, .slice (some ⟨w3.heap.size, 0, none⟩) n n, .slice none 0 0, .slice none 0 0, .slice none 0 0, .string ⟨#[]⟩] 28)) = .ok (.slice Ao' (k + 1) co') w5 ∧
      CssRel W gl g A c l q Ao' (k + 1) co' (ps ++ [(s, w3.heap.size, sel l p q)]) w5 := by
  have hsl : (sel l p q).length = n := by rw [sel_len hL.np]; exact hq
  obtain ⟨lx, own, pl, kp, cat, dat, apl, apg, apA, apE, gW, bel⟩ := h
  have hszW := bel.size
  have hsz2 := hg.size
  have hsz3 := hB3.size
  have hsz4 := hB4.size
  have l0 := row_lt own
  have hn4 : wr.grownBy w2 (some g) := hg
  have hg3 := grown_of_below hB3 (blk Ao)
  have hg4 := grown_of_below hB4 (blk Ao)
  have own2 := row_kept own hg (fun b hb e => apg (hb.trans e.symm))
  have own3 := row_kept own2 (grown_of_below hB3 none) (fun _ _ e => by cases e)
  have own4 := row_kept own3 (grown_of_below hB4 none) (fun _ _ e => by cases e)
  obtain ⟨ob, hob⟩ : ∃ ob : Obj, Obj.cells #[.string s, .slice (some ⟨w3.heap.size, 0, none⟩) n n, .slice none 0 0, .slice none 0 0, .slice none 0 0, .string ⟨#[]⟩] 28 = ob := ⟨_, rfl⟩
  obtain ⟨Ao', co', w5, hrun, o5, g5, b5⟩ := row_app 24 28 Tryd.underlying24 pce_info rfl (by omega) (own4.alloc ob) (by simp; omega) w4.heap.size 1 (by omega) (news := pcells (s, w3.heap.size, sel l p q)) rfl
    (fun j u hj => by rw [← hob, World.cell?_alloc_mark]; simpa [pcells, hsl] using hj) (fun u hu => by simp [pcells] at hu; rcases hu with rfl | rfl | rfl | rfl <;> rfl) (by omega) (by omega)
  rw [← hob] at hrun
  have g45 : w4.grownBy w5 (blk Ao) := (grown_of_below ((Below.refl _ _).alloc (Nat.le_refl _) ob) (blk Ao)).trans g5
  have bel2 : Below W.heap.size W w2 := bel.grown hg hszW (fun b e => by injection e with e; omega)
  have bel3 := bel2.trans (hB3.mono (by omega))
  have bel4 := bel3.trans (hB4.mono (by omega))
  have bel5 : Below W.heap.size W w5 := bel4.grown g45 bel4.size (fun b e => (l0 b e).1)
  have hL3 := hL.below hB3
  have hL4 := hL3.below hB4
  have lt2 := hL.lt
  have ltg := hL.inp.lt
  have hadr := hL.adr
  have eneq : blk Ao ≠ some 0 := fun e => by have := (l0 _ e).1; omega
  refine ⟨Ao', co', w5, hrun, ⟨hL4.kept g45 apl apg apA eneq, ?_, by simp [pl], by omega, ?_, ?_, ?_, ?_, ?_, apE, gW, bel5⟩⟩
  · rw [List.flatMap_append]
    simpa using o5
  · rw [bytes_snoc, cat]
    exact take_sel (by omega)
  · intro d hd
    rcases List.mem_append.1 hd with hd | hd
    · obtain ⟨h1, h2, h3, h4⟩ := dat d hd
      have e2 := h2.grown hg (fun e => h3 (by injection e))
      have e3 := e2.grown (grown_of_below hB3 none) (fun e => by cases e)
      have e4 := e3.grown (grown_of_below hB4 none) (fun e => by cases e)
      refine ⟨h1, e4.grown g45 (fun e => h4 e.symm), h3, fun e => ?_⟩
      rcases b5 with e5 | e5
      · exact h4 (e5.symm.trans e)
      · rw [e] at e5
        injection e5 with e5
        have := e4.lt
        simp at e5
        omega
    · simp at hd
      subst hd
      refine ⟨fun e => ?_, hD.grown g45 (fun e => ?_), ?_, fun e => ?_⟩
      · have := congrArg List.length e
        rw [hsl] at this
        simp at this
        omega
      · have := (l0 _ e.symm).2
        omega
      · show w3.heap.size ≠ g
        omega
      · have e : blk Ao' = some w3.heap.size := e
        rcases b5 with e5 | e5
        · have := (l0 _ (e5.symm.trans e)).2
          omega
        · rw [e] at e5
          injection e5 with e5
          have := hD.lt
          simp at e5
          omega
  · intro e
    rcases b5 with e5 | e5
    · exact apl (e5.symm.trans e)
    · rw [e] at e5; injection e5 with e5; simp at e5; omega
  · intro e
    rcases b5 with e5 | e5
    · exact apg (e5.symm.trans e)
    · rw [e] at e5; injection e5 with e5; simp at e5; omega
  · intro b o eA e
    rcases b5 with e5 | e5
    · exact apA b o eA (e5.symm.trans e)
    · rw [e] at e5; injection e5 with e5; have := hadr b o eA; simp at e5; omega
end Go.Proofs.YtngmdgefecebmaaDoor
