/- A text as a list of items: bytes, and entities with what they mean. Plain lists; and the replacement of any one entity. Conditions: names of 2 to 30 small letters; texts of letters and digits, not longer; numbers of small letters. -/
import Derived.Test.YtnepjlfkbmindaaDoorReN
import Derived.Test.YtnepjlfkbmindaaDoorReD
import Derived.Test.YtnepjlfkbmindaaDoorReH
import Derived.Test.YtnepjlfkbmindaaDoorDec
namespace Go.Proofs.YtnepjlfkbmindaaDoor
open Go.RowKit
set_option linter.unusedVariables false
set_option linter.unusedSimpArgs false

abbrev NT := List (List UInt8 × List UInt8)
def NtOk (nt : NT) : Prop := ∀ p ∈ nt, 2 ≤ p.1.length ∧ p.1.length ≤ 30 ∧ (∀ d ∈ p.1, isSmall d) ∧ 1 ≤ p.2.length ∧ p.2.length ≤ p.1.length ∧ ∀ d ∈ p.2, isAn d
def hexC (d : Nat) : UInt8 := UInt8.ofNat (if d < 10 then 48 + d else 87 + d)
inductive IsEnt (nt : NT) : List UInt8 → List UInt8 → Prop where
  | name (x t : List UInt8) (h : (x, t) ∈ nt) : IsEnt nt (38 :: (x ++ [59])) t
  | dec (c : UInt8) (h : isSmall c) : IsEnt nt (38 :: 35 :: (dec c.toNat ++ [59])) [c]
  | hex (c : UInt8) (h : isSmall c) : IsEnt nt (38 :: 35 :: 120 :: ([hexC (c.toNat / 16), hexC (c.toNat % 16)] ++ [59])) [c]
theorem dec2 {n : Nat} (h1 : 10 ≤ n) (h2 : n < 100) : dec n = [UInt8.ofNat (48 + n / 10), UInt8.ofNat (48 + n % 10)] := by
  rw [dec_ge h1, dec_lt (by omega)]
  rfl
theorem dec3 {n : Nat} (h1 : 100 ≤ n) (h2 : n < 1000) : dec n = [UInt8.ofNat (48 + n / 100), UInt8.ofNat (48 + n / 10 % 10), UInt8.ofNat (48 + n % 10)] := by
  rw [dec_ge (by omega), dec2 (by omega) (by omega), Nat.div_div_eq_div_mul]
  rfl
theorem dec_small {c : UInt8} (h : isSmall c) : 2 ≤ (dec c.toNat).length ∧ (dec c.toNat).length ≤ 3 ∧ (∀ d ∈ dec c.toNat, isDg d) ∧ ∀ q, dval ((dec c.toNat).take q) ≤ 122 := by
  obtain ⟨h1, h2⟩ := h
  generalize c.toNat = n at *
  by_cases h3 : n < 100
  · rw [dec2 (by omega) h3]
    refine ⟨by simp, by simp, fun d hd => ?_, fun q => ?_⟩
    · simp only [List.mem_cons, List.not_mem_nil, or_false] at hd
      unfold isDg
      rcases hd with rfl | rfl <;> (rw [digit_toNat (by omega)]; omega)
    · match q with
      | 0 => simp [dval]
      | 1 => simp only [List.take_succ_cons, List.take_zero, dval, List.foldl_cons, List.foldl_nil]; rw [digit_toNat (by omega)]; omega
      | q + 2 => simp only [List.take_succ_cons, List.take_nil, dval, List.foldl_cons, List.foldl_nil]; rw [digit_toNat (by omega), digit_toNat (by omega)]; omega
  · rw [dec3 (by omega) (by omega)]
    refine ⟨by simp, by simp, fun d hd => ?_, fun q => ?_⟩
    · simp only [List.mem_cons, List.not_mem_nil, or_false] at hd
      unfold isDg
      rcases hd with rfl | rfl | rfl <;> (rw [digit_toNat (by omega)]; omega)
    · match q with
      | 0 => simp [dval]
      | 1 => simp only [List.take_succ_cons, List.take_zero, dval, List.foldl_cons, List.foldl_nil]; rw [digit_toNat (by omega)]; omega
      | 2 => simp only [List.take_succ_cons, List.take_zero, dval, List.foldl_cons, List.foldl_nil]; rw [digit_toNat (by omega), digit_toNat (by omega)]; omega
      | q + 3 => simp only [List.take_succ_cons, List.take_nil, dval, List.foldl_cons, List.foldl_nil]; rw [digit_toNat (by omega), digit_toNat (by omega), digit_toNat (by omega)]; omega
theorem take_next {x : List UInt8} {q : Nat} {d : UInt8} (h : x[q]? = some d) : x.take (q + 1) = x.take q ++ [d] := by
  obtain ⟨hq, e⟩ := List.getElem?_eq_some_iff.1 h
  rw [List.take_succ_eq_append_getElem hq, e]
def hval (l : List UInt8) : Nat := l.foldl (fun n c => n * 16 + hexD c) 0
theorem hexC_toNat {d : Nat} (h : d < 16) : (hexC d).toNat = if d < 10 then 48 + d else 87 + d := by
  unfold hexC
  rw [UInt8.toNat_ofNat']
  split <;> omega
theorem hexD_hexC {d : Nat} (h : d < 16) : hexD (hexC d) = d := by
  unfold hexD
  rw [hexC_toNat h]
  split <;> split <;> omega
theorem isHexS_hexC {d : Nat} (h : d < 16) : isHexS (hexC d) := by
  unfold isHexS
  rw [hexC_toNat h]
  split <;> omega
theorem IsEnt.facts {nt : NT} {f t : List UInt8} (hn : NtOk nt) (h : IsEnt nt f t) : 4 ≤ f.length ∧ f[0]? = some 38 ∧ 1 ≤ t.length ∧ t.length < f.length ∧ ∀ d ∈ t, isAn d := by
  cases h with
  | name x t h =>
    obtain ⟨h1, h2, h3, h4, h5, h6⟩ : 2 ≤ x.length ∧ x.length ≤ 30 ∧ (∀ d ∈ x, isSmall d) ∧ 1 ≤ t.length ∧ t.length ≤ x.length ∧ ∀ d ∈ t, isAn d := hn _ h
    exact ⟨by simp; omega, rfl, h4, by simp; omega, h6⟩
  | dec c h =>
    have := dec_small h
    exact ⟨by simp; omega, rfl, by simp, by simp, fun d hd => by simp at hd; subst hd; unfold isSmall at h; unfold isAn; omega⟩
  | hex c h => exact ⟨by simp, rfl, by simp, by simp, fun d hd => by simp at hd; subst hd; unfold isSmall at h; unfold isAn; omega⟩
/-- What the replacements need of the memory. -/
structure Ctx (w : World) (B g : Nat) (nt : NT) : Prop where
  map : ∃ ps, MapS w B ps ∧ ∀ p ∈ nt, ∃ R rc, (p.1, Value.slice R p.2.length rc) ∈ ps ∧ BS w R p.2 ∧ ∀ k, blk R = some k → k ≠ g
  ne : B ≠ g
theorem Ctx.grown {w w' : World} {B g : Nat} {nt : NT} (h : Ctx w B g nt) (hg : w.grownBy w' (some g)) : Ctx w' B g nt := by
  obtain ⟨⟨ps, h1, h2⟩, h3⟩ := h
  refine ⟨⟨ps, h1.kept hg (fun e => h3 (by injection e)), fun p hp => ?_⟩, h3⟩
  obtain ⟨R, rc, a, b, c⟩ := h2 p hp
  exact ⟨R, rc, a, b.grown hg (fun k hk e => c k hk (by injection e with e; exact e.symm)), c⟩
/-- Any one entity is replaced. -/
theorem rep_any (g n c i B base : Nat) (l f t : List UInt8) (nt : NT) (w : World) (own : OwnB w base (some ⟨g, 0, none⟩) n c l) (hf : Lies l i f) (he : IsEnt nt f t) (hn : NtOk nt) (cx : Ctx w B g nt) (hn2 : n ≤ 2147483647) :
    Calls Tryd.prog 23 #[.slice (some ⟨g, 0, none⟩) n c, .int .i64 (i : Int), .map (some B), .map none] w (RepRet w base g c n i l f t) := by
  cases he with
  | name x t h =>
    obtain ⟨h1, h2, h3, h4, h5, h6⟩ := hn _ h
    obtain ⟨ps, hm, hp⟩ := cx.map
    obtain ⟨R, rc, a, b, _⟩ := hp _ h
    exact rep_named g n c i x.length t.length rc B base R l x t ps w own hf rfl h1 h2 h3 rfl h4 h5 h6 hm a b hn2
  | dec ch h =>
    obtain ⟨h1, h2, h3, h4⟩ := dec_small h
    refine rep_dec g n c i (dec ch.toNat).length B base l (dec ch.toNat) ch (fun q => dval ((dec ch.toNat).take q)) w own hf rfl h1 h2 h3 (by simp [dval]) (fun q d hd => ?_) h4 ?_ h hn2
    · show dval (List.take (q + 1) _) = _
      rw [take_next hd, dval_snoc]
    · show dval (List.take _ _) = _
      rw [List.take_length, dval_dec]
  | hex ch h =>
    obtain ⟨ha, hb⟩ := h
    have q1 : ch.toNat / 16 < 16 := by omega
    have q2 : ch.toNat % 16 < 16 := by omega
    refine rep_hex g n c i 2 B base l [hexC (ch.toNat / 16), hexC (ch.toNat % 16)] ch (fun q => hval ([hexC (ch.toNat / 16), hexC (ch.toNat % 16)].take q)) w own hf rfl (by omega) (by omega) (fun d hd => ?_) (by simp [hval]) (fun q d hd => ?_) (fun q => ?_) ?_ ⟨ha, hb⟩ hn2
    · simp only [List.mem_cons, List.not_mem_nil, or_false] at hd
      rcases hd with rfl | rfl
      · exact isHexS_hexC q1
      · exact isHexS_hexC q2
    · show hval (List.take (q + 1) _) = _
      rw [take_next hd]
      simp [hval]
    · show hval _ ≤ 122
      match q with
      | 0 => simp [hval]
      | 1 => simp only [List.take_succ_cons, List.take_zero, hval, List.foldl_cons, List.foldl_nil]; rw [hexD_hexC q1]; omega
      | q + 2 => simp only [List.take_succ_cons, List.take_nil, hval, List.foldl_cons, List.foldl_nil]; rw [hexD_hexC q1, hexD_hexC q2]; omega
    · show hval (List.take 2 _) = _
      simp only [List.take_succ_cons, List.take_zero, hval, List.foldl_cons, List.foldl_nil]
      rw [hexD_hexC q1, hexD_hexC q2]
      omega

/-- Items of a text. -/
inductive It where
  | byte (c : UInt8)
  | ent (f t : List UInt8)
def It.src : It → List UInt8
  | .byte c => [c]
  | .ent f _ => f
def It.dst : It → List UInt8
  | .byte c => [c]
  | .ent _ t => t
def ItOk (nt : NT) : It → Prop
  | .byte c => c ≠ 38
  | .ent f t => IsEnt nt f t
def srcs (its : List It) : List UInt8 := its.flatMap It.src
def dsts (its : List It) : List UInt8 := its.flatMap It.dst
/-- What is still to be done, at place i of the text as it stands. -/
structure Todo (nt : NT) (l : List UInt8) (i : Nat) (rest : List It) (due : List UInt8) : Prop where
  src : l.drop i = srcs rest
  dst : l.take i ++ dsts rest = due
  le : i ≤ l.length
  ok : ∀ it ∈ rest, ItOk nt it
theorem Todo.done {nt : NT} {l due : List UInt8} {i : Nat} (h : Todo nt l i [] due) : i = l.length ∧ l = due := by
  have h1 := h.src
  have h2 := h.dst
  have h3 := h.le
  have e : l.length ≤ i := by simpa [srcs] using h1
  refine ⟨by omega, ?_⟩
  rw [List.take_of_length_le e] at h2
  simpa [dsts] using h2
theorem Todo.byte {nt : NT} {l due : List UInt8} {i : Nat} {c : UInt8} {rest : List It} (h : Todo nt l i (.byte c :: rest) due) : l[i]? = some c ∧ c ≠ 38 ∧ Todo nt l (i + 1) rest due := by
  have h1 : l.drop i = c :: srcs rest := h.src
  have h2 : l.take i ++ c :: dsts rest = due := h.dst
  have h0 : l[i]? = some c := by
    have := congrArg (·[0]?) h1
    simpa using this
  obtain ⟨hi, e⟩ := List.getElem?_eq_some_iff.1 h0
  refine ⟨h0, h.ok (.byte c) (by simp), ⟨?_, ?_, hi, fun it hit => h.ok it (by simp [hit])⟩⟩
  · have := congrArg (List.drop 1) h1
    simpa [List.drop_drop] using this
  · rw [List.take_succ_eq_append_getElem hi, e, List.append_assoc]
    exact h2
theorem Todo.ent {nt : NT} {l due f t : List UInt8} {i : Nat} {rest : List It} (h : Todo nt l i (.ent f t :: rest) due) : Lies l i f ∧ IsEnt nt f t ∧ Todo nt (l.take i ++ t ++ l.drop (i + f.length)) (i + t.length) rest due ∧ i + f.length ≤ l.length := by
  have h1 : l.drop i = f ++ srcs rest := h.src
  have h2 : l.take i ++ (t ++ dsts rest) = due := h.dst
  have hle := h.le
  have e1 : l = l.take i ++ (f ++ srcs rest) := by rw [← h1, List.take_append_drop]
  have lt : (l.take i).length = i := by simp; omega
  have e2 : l.drop (i + f.length) = srcs rest := by
    have := congrArg (List.drop f.length) h1
    simpa [List.drop_drop] using this
  have e3 : (l.take i ++ t).length = i + t.length := by rw [List.length_append, lt]
  have e4 : i + f.length ≤ l.length := by
    have := congrArg List.length h1
    simp at this
    omega
  refine ⟨⟨l.take i, srcs rest, e1, lt⟩, h.ok (.ent f t) (by simp), ⟨?_, ?_, ?_, fun it hit => h.ok it (by simp [hit])⟩, e4⟩
  · rw [e2, List.drop_append, e3, List.drop_of_length_le (l := l.take i ++ t) (by omega), Nat.sub_self]
    simp
  · rw [e2, ← e3, List.take_left, List.append_assoc]
    exact h2
  · rw [List.length_append, e3]
    omega
end Go.Proofs.YtnepjlfkbmindaaDoor
