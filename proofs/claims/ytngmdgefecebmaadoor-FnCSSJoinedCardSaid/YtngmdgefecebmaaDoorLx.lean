/- The lexer of CSS over an input: what its first steps do. Conditions: the text has no zero byte and is shorter than 2^31. -/
import Derived.Test.YtngmdgefecebmaaDoorInp3
namespace Go.Proofs.YtngmdgefecebmaaDoor
open Go.RowKit
set_option linter.unusedVariables false

/-- io.EOF holds a pointer that may be compared. -/
def EofIs (w : World) : Prop := ∃ T te i j a, Tryd.prog.underlying T = some (.pointer te) ∧ Tryd.prog.info? T = some i ∧ i.comparable = true ∧ Tryd.prog.info? te = some j ∧ Eof w T a
theorem EofIs.below {w w' : World} (h : EofIs w) (hb : Below w.heap.size w w') : EofIs w' := by
  obtain ⟨T, te, i, j, a, h1, h2, h3, h4, h5⟩ := h
  exact ⟨T, te, i, j, a, h1, h2, h3, h4, h5.below hb⟩
theorem EofIs.drewN {w : World} (h : EofIs w) (n : Nat) : EofIs (w.drewN n) := h
theorem EofIs.step {w w' : World} {g c pos start : Nat} {A : Option Addr} {l : List UInt8} (h : EofIs w) (hi : Inp w g A c l pos start) (hg : w.grownBy w' (some g)) : EofIs w' := by
  obtain ⟨T, te, i, j, a, h1, h2, h3, h4, h5⟩ := h
  refine ⟨T, te, i, j, a, h1, h2, h3, h4, hg.cell h5 (fun e => ?_)⟩
  have e1 : 0 = g := by injection e
  have h6 : w.cell? ⟨0, 0, none⟩ = some (.iface T (.pointer (some a))) := h5
  have h7 := hi.c0
  rw [← e1] at h7
  rw [h6] at h7
  cases h7
/-- The lexer at block gl over the input at block g. -/
structure Lx (w : World) (gl g : Nat) (A : Option Addr) (c : Nat) (l : List UInt8) (pos start : Nat) : Prop where
  inp : Inp w g A c l pos start
  row : w.heap[gl]? = some (.cells #[.pointer (some ⟨g, 0, none⟩)] 45 (0, 0))
  ne : gl ≠ g
  np : pos ≤ l.length
  sp : start ≤ pos
  hl : l.length ≤ 1073741823
  nz : ∀ x ∈ l, x ≠ 0
  eof : EofIs w
section
variable {w w' : World} {gl g c pos start : Nat} {A : Option Addr} {l : List UInt8}
theorem Lx.cell (h : Lx w gl g A c l pos start) : w.cell? ⟨gl, 0, none⟩ = some (.pointer (some ⟨g, 0, none⟩)) := by simp [World.cell?, h.row]
theorem Lx.lt (h : Lx w gl g A c l pos start) : gl < w.heap.size := (Array.getElem?_eq_some_iff.1 h.row).1
theorem Lx.step (h : Lx w gl g A c l pos start) {p s : Nat} (hi : Inp w' g A c l p s) (hg : w.grownBy w' (some g)) (hp : p ≤ l.length) (hs : s ≤ p) : Lx w' gl g A c l p s :=
  ⟨hi, (hg.block gl h.lt (fun e => h.ne (by injection e))).trans h.row, h.ne, hp, hs, h.hl, h.nz, h.eof.step h.inp hg⟩
theorem Lx.drewN (h : Lx w gl g A c l pos start) (n : Nat) : Lx (w.drewN n) gl g A c l pos start := ⟨h.inp.drewN n, h.row, h.ne, h.np, h.sp, h.hl, h.nz, h.eof⟩
theorem Lx.below (h : Lx w gl g A c l pos start) (hb : Below w.heap.size w w') : Lx w' gl g A c l pos start := ⟨h.inp.below hb, (hb.block gl h.lt).trans h.row, h.ne, h.np, h.sp, h.hl, h.nz, h.eof.below hb⟩
/-- What is seen k bytes on. -/
def Seen (l : List UInt8) (at_ : Nat) (x : UInt8) : Prop := (l[at_]? = some x ∧ at_ < l.length ∧ (0 : Int) < (x.toNat : Int)) ∨ (at_ = l.length ∧ (x.toNat : Int) = 0)
theorem lpeek (k : Nat) (h : Lx w gl g A c l pos start) (hk : pos + k ≤ l.length) :
    Calls Tryd.prog 16 #[.pointer (some ⟨g, 0, none⟩), .int .i64 (k : Int)] w fun e w' => ∃ x : UInt8, e = .returned (.int .u8 (x.toNat : Int)) ∧ Seen l (pos + k) x ∧ w = w' := by
  have hl := h.hl
  by_cases hlt : pos + k < l.length
  · have hx : l[pos + k]? = some l[pos + k] := List.getElem?_eq_getElem hlt
    refine (peek_any g c pos start A l w k l[pos + k] h.inp (by omega) (by rw [List.getElem?_append_left hlt]; exact hx)).mono ?_
    rintro e w1 ⟨rfl, rfl⟩
    refine ⟨_, rfl, .inl ⟨hx, hlt, ?_⟩, rfl⟩
    have h1 := h.nz _ (List.getElem_mem hlt)
    have h2 : l[pos + k].toNat ≠ 0 := fun e => h1 (UInt8.toNat_inj.1 e)
    omega
  · have e1 : pos + k = l.length := by omega
    refine (peek_any g c pos start A l w k 0 h.inp (by omega) (by rw [e1, List.getElem?_append_right (Nat.le_refl _), Nat.sub_self]; rfl)).mono ?_
    rintro e w1 ⟨rfl, rfl⟩
    exact ⟨0, rfl, .inr ⟨e1, rfl⟩, rfl⟩
/-- The lexer at another place. -/
def LxRet (v : Value) (gl g : Nat) (A : Option Addr) (c : Nat) (l : List UInt8) (pos start : Nat) (w : World) (e : Ending) (w' : World) : Prop := e = .returned v ∧ Lx w' gl g A c l pos start ∧ w.grownBy w' (some g)
theorem lmove (k : Nat) (h : Lx w gl g A c l pos start) (hk : pos + k ≤ l.length) :
    Calls Tryd.prog 17 #[.pointer (some ⟨g, 0, none⟩), .int .i64 (k : Int)] w (LxRet unit gl g A c l (pos + k) start w) := by
  have hl := h.hl
  refine (move_any g c pos start A l w k h.inp (by omega) h.np (by omega)).mono ?_
  rintro e w1 ⟨rfl, hi, hg⟩
  exact ⟨rfl, h.step hi hg hk (by have := h.sp; omega), hg⟩
theorem move_back (h : Inp w g A c l pos start) (hl : l.length ≤ 2147483647) (hp : pos ≤ l.length) (h1 : 1 ≤ pos) :
    Calls Tryd.prog 17 #[.pointer (some ⟨g, 0, none⟩), .int .i64 (-1)] w (InpRet unit g A c l (pos - 1) start w) := by
  have c1 := h.c1
  have f1 := h.fr 1
  obtain ⟨p, rfl⟩ : ∃ p, pos = p + 1 := ⟨pos - 1, by omega⟩
  have H2 := hide (h.setPos p)
  have HG := hide (grown_set (World.grownBy.refl w (some g)) (p := ⟨g, 1, none⟩) (.inl rfl) (.int .i64 (p : Int)))
  have he : (((p + 1 : Nat) : Int)) + -1 = (p : Int) := by omega
  have he2 : (p : Int) + 1 + -1 = (p : Int) := by omega
  clear h
  go_enter Tryd.func17, Tryd.ntmps17
  go_wp2
  go_end0
  exact ⟨rfl, H2.out, HG.out⟩
theorem lback (h : Lx w gl g A c l pos start) (h1 : start + 1 ≤ pos) :
    Calls Tryd.prog 17 #[.pointer (some ⟨g, 0, none⟩), .int .i64 (-1)] w (LxRet unit gl g A c l (pos - 1) start w) := by
  have hl := h.hl
  have hp := h.np
  refine (move_back h.inp (by omega) hp (by omega)).mono ?_
  rintro e w1 ⟨rfl, hi, hg⟩
  exact ⟨rfl, h.step hi hg (by omega) (by omega), hg⟩
theorem lpos (h : Lx w gl g A c l pos start) :
    Calls Tryd.prog 34 #[.pointer (some ⟨g, 0, none⟩)] w fun e w' => e = .returned (.int .i64 ((pos : Int) - (start : Int))) ∧ ∃ n, w' = w.drewN n :=
  have hl := h.hl
  pos_any g c pos start A l w h.inp (by omega) h.np h.sp
theorem lrewind (p : Nat) (z : Int) (h : Lx w gl g A c l pos start) (hz : z = (p : Int) - (start : Int)) (hp : p ≤ l.length) (hs : start ≤ p) :
    Calls Tryd.prog 36 #[.pointer (some ⟨g, 0, none⟩), .int .i64 z] w (LxRet unit gl g A c l p start w) := by
  have hl := h.hl
  obtain ⟨k, rfl⟩ : ∃ k, p = start + k := ⟨p - start, by omega⟩
  obtain rfl : z = (k : Int) := by omega
  refine (rewind_any g c pos start A l w k h.inp (by omega) (by omega)).mono ?_
  rintro e w1 ⟨rfl, hi, hg⟩
  exact ⟨rfl, h.step hi hg (by omega) (by omega), hg⟩
theorem ierr_in (h : Lx w gl g A c l pos start) (hk : pos < l.length) :
    Calls Tryd.prog 33 #[.pointer (some ⟨g, 0, none⟩)] w fun e w' => e = .returned .nilIface ∧ ∃ n, w' = w.drewN n := by
  have hl := h.hl
  have H := hide (peekErr_in g c pos start A l w 0 h.inp (by omega) (by omega))
  clear h
  go_enter Tryd.func33, Tryd.ntmps33
  go_wp2_with fail
  refine H.out.mono ?_
  rintro e w1 ⟨rfl, n, rfl⟩
  go_wp2
  go_ret
  exact ⟨rfl, _, rfl⟩
theorem ierr_end (T : TypeId) (a : Addr) (h : Lx w gl g A c l pos start) (he : Eof w T a) (hk : pos = l.length) :
    Calls Tryd.prog 33 #[.pointer (some ⟨g, 0, none⟩)] w fun e w' => e = .returned (.iface T (.pointer (some a))) ∧ ∃ n, w' = w.drewN n := by
  have hl := h.hl
  have H := hide (peekErr_end g c pos start A l w T a 0 h.inp he (by omega) (by omega))
  clear h
  go_enter Tryd.func33, Tryd.ntmps33
  go_wp2_with fail
  refine H.out.mono ?_
  rintro e w1 ⟨rfl, n, rfl⟩
  go_wp2
  go_ret
  exact ⟨rfl, _, rfl⟩
/-- Whether the text is at its end. -/
theorem lerr (h : Lx w gl g A c l pos start) :
    Calls Tryd.prog 33 #[.pointer (some ⟨g, 0, none⟩)] w fun e w' => ((pos < l.length ∧ e = .returned .nilIface) ∨ (pos = l.length ∧ ∃ T a, e = .returned (.iface T (.pointer (some a))))) ∧ ∃ n, w' = w.drewN n := by
  by_cases hk : pos < l.length
  · exact (ierr_in h hk).mono fun e w1 ⟨h1, h2⟩ => ⟨.inl ⟨hk, h1⟩, h2⟩
  · have hp := h.np
    obtain ⟨T, te, i, j, a, h1, h2, h3, h4, h5⟩ := h.eof
    exact (ierr_end T a h h5 (by omega)).mono fun e w1 ⟨h1, h2⟩ => ⟨.inr ⟨by omega, T, a, h1⟩, h2⟩
theorem lerr_end (h : Lx w gl g A c l pos start) (hk : pos = l.length) :
    Calls Tryd.prog 33 #[.pointer (some ⟨g, 0, none⟩)] w fun e w' => (∃ T a, e = .returned (.iface T (.pointer (some a)))) ∧ ∃ n, w' = w.drewN n := by
  obtain ⟨T, te, i, j, a, h1, h2, h3, h4, h5⟩ := h.eof
  exact (ierr_end T a h h5 hk).mono fun e w1 ⟨h1, h2⟩ => ⟨⟨T, a, h1⟩, h2⟩
/-- A step that may take some bytes. -/
def Eats (gl g : Nat) (A : Option Addr) (c : Nat) (l : List UInt8) (pos start : Nat) (w : World) (e : Ending) (w' : World) : Prop :=
  ∃ (r : Bool) (p : Nat), e = .returned (.bool r) ∧ Lx w' gl g A c l p start ∧ w.grownBy w' (some g) ∧ (r = false → p = pos) ∧ (r = true → pos < p)
theorem seen_move {at_ : Nat} {x : UInt8} (h : Seen l at_ x) (hx : (x.toNat : Int) ≠ 0) : at_ + 1 ≤ l.length := by
  rcases h with h | h
  · omega
  · exact absurd h.2 hx
end
end Go.Proofs.YtngmdgefecebmaaDoor
