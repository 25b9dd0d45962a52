/- Runs of blanks made to one blank each. Plain lists, no program. -/
import Derived.Test.YtnepjlfkbmindaaDoorBlank
import Derived.Test.YtnepjlfkbmindaaDoorAll
namespace Go.Proofs.YtnepjlfkbmindaaDoor

/-- What stands for a run of blanks. -/
def markB (r : List UInt8) : UInt8 := if r.any isNl then 10 else 32
def sq (l : List UInt8) : List UInt8 :=
  match l with
  | [] => []
  | c :: r => if isBl c then markB (c :: r.takeWhile isBl) :: sq (r.dropWhile isBl) else c :: sq r
termination_by l.length
decreasing_by
  · have := (List.dropWhile_sublist isBl (l := r)).length_le
    simp; omega
  · simp
theorem sq_nil : sq [] = [] := by rw [sq]
theorem sq_bl {c : UInt8} {r : List UInt8} (h : isBl c = true) : sq (c :: r) = markB (c :: r.takeWhile isBl) :: sq (r.dropWhile isBl) := by rw [sq, if_pos h]
theorem sq_no {c : UInt8} {r : List UInt8} (h : isBl c = false) : sq (c :: r) = c :: sq r := by rw [sq, if_neg (by simp [h])]
theorem sq_len (l : List UInt8) : (sq l).length ≤ l.length := by
  induction h : l.length using Nat.strongRecOn generalizing l with
  | _ n ih =>
    match l with
    | [] => simp [sq_nil]
    | c :: r =>
      subst h
      have hd := (List.dropWhile_sublist isBl (l := r)).length_le
      cases hh : isBl c
      · rw [sq_no hh]; have := ih r.length (by simp) r rfl; simp; omega
      · rw [sq_bl hh]; have := ih (r.dropWhile isBl).length (by simp; omega) _ rfl; simp; omega
theorem takeW_app {p : UInt8 → Bool} {a b : List UInt8} (ha : ∀ c ∈ a, p c = true) (hb : ∀ c, b.head? = some c → p c = false) : (a ++ b).takeWhile p = a := by
  induction a with
  | nil =>
    cases b with
    | nil => rfl
    | cons x b => rw [List.nil_append, List.takeWhile_cons, if_neg (by rw [hb x rfl]; simp)]
  | cons x a ih => rw [List.cons_append, List.takeWhile_cons, if_pos (ha x (by simp)), ih (fun c hc => ha c (by simp [hc]))]
theorem dropW_app {p : UInt8 → Bool} {a b : List UInt8} (ha : ∀ c ∈ a, p c = true) (hb : ∀ c, b.head? = some c → p c = false) : (a ++ b).dropWhile p = b := by
  induction a with
  | nil =>
    cases b with
    | nil => rfl
    | cons x b => rw [List.nil_append, List.dropWhile_cons, if_neg (by rw [hb x rfl]; simp)]
  | cons x a ih => rw [List.cons_append, List.dropWhile_cons, if_pos (ha x (by simp)), ih (fun c hc => ha c (by simp [hc]))]
/-- A run of blanks that ends, and what follows. -/
theorem sq_run {a b : List UInt8} (hne : a ≠ []) (ha : ∀ c ∈ a, isBl c = true) (hb : ∀ c, b.head? = some c → isBl c = false) : sq (a ++ b) = markB a :: sq b := by
  cases a with
  | nil => exact absurd rfl hne
  | cons x a =>
    rw [List.cons_append, sq_bl (ha x (by simp)), takeW_app (fun c hc => ha c (by simp [hc])) hb, dropW_app (fun c hc => ha c (by simp [hc])) hb]
/-- Blanks from place i up to place e, and none there. -/
structure RunAt (l : List UInt8) (i e : Nat) : Prop where
  lt : i < e
  le : e ≤ l.length
  all : ∀ j c, i ≤ j → j < e → l[j]? = some c → isBl c = true
  stop : ∀ c, l[e]? = some c → isBl c = false
theorem drop_split (l : List UInt8) {i e : Nat} (h : i ≤ e) : l.drop i = (l.drop i).take (e - i) ++ l.drop e := by
  conv => lhs; rw [← List.take_append_drop (e - i) (l.drop i)]
  rw [List.drop_drop, show i + (e - i) = e by omega]
/-- The mark of a run. -/
def markAt (l : List UInt8) (i e : Nat) : UInt8 := markB ((l.drop i).take (e - i))
theorem sq_at {l : List UInt8} {i e : Nat} (h : RunAt l i e) : sq (l.drop i) = markAt l i e :: sq (l.drop e) := by
  rw [drop_split l (Nat.le_of_lt h.lt)]
  refine sq_run ?_ ?_ ?_
  · intro h0
    have := congrArg List.length h0
    have := h.lt
    have := h.le
    simp at *
    omega
  · intro c hc
    obtain ⟨j, hj, rfl⟩ := List.getElem_of_mem hc
    simp at hj
    exact h.all (i + j) _ (by omega) (by omega) (by simp [List.getElem?_eq_getElem (show i + j < l.length by omega)])
  · intro c hc
    rw [List.head?_drop] at hc
    exact h.stop c hc
theorem sq_one {l : List UInt8} {i : Nat} {c : UInt8} (h : l[i]? = some c) (hb : isBl c = false) : sq (l.drop i) = c :: sq (l.drop (i + 1)) := by
  obtain ⟨hi, e⟩ := List.getElem?_eq_some_iff.1 h
  rw [List.drop_eq_getElem_cons hi, e, sq_no hb]
/-- Is an end of a line among the bytes from i up to e? -/
def nlAt (l : List UInt8) (i e : Nat) : Bool := ((l.drop i).take (e - i)).any isNl
theorem markAt_nl {l : List UInt8} {i e : Nat} {b : Bool} (h : nlAt l i e = b) : markAt l i e = if b then 10 else 32 := by
  unfold markAt markB
  rw [show ((l.drop i).take (e - i)).any isNl = b from h]
theorem nlAt_one {l : List UInt8} {i : Nat} {c : UInt8} (h : l[i]? = some c) : nlAt l i (i + 1) = isNl c := by
  obtain ⟨hi, e⟩ := List.getElem?_eq_some_iff.1 h
  unfold nlAt
  rw [List.drop_eq_getElem_cons hi, e]
  simp
theorem nlAt_next {l : List UInt8} {i e : Nat} {c : UInt8} (hie : i ≤ e) (h : l[e]? = some c) : nlAt l i (e + 1) = (nlAt l i e || isNl c) := by
  obtain ⟨hi, he⟩ := List.getElem?_eq_some_iff.1 h
  unfold nlAt
  rw [show e + 1 - i = (e - i) + 1 by omega, List.take_succ_eq_append_getElem (by simp; omega), List.any_append]
  simp [show i + (e - i) = e by omega, he]
theorem nlAt_zero (l : List UInt8) (i : Nat) : nlAt l i i = false := by simp [nlAt]
/-- Blanks alone from place i up to place e. -/
def BlTo (l : List UInt8) (i e : Nat) : Prop := ∀ j c, i ≤ j → j < e → l[j]? = some c → isBl c = true
theorem BlTo.refl (l : List UInt8) (i : Nat) : BlTo l i i := fun j c h1 h2 => absurd h1 (by omega)
theorem BlTo.next {l : List UInt8} {i e : Nat} {c : UInt8} (h : BlTo l i e) (hc : l[e]? = some c) (hb : isBl c = true) : BlTo l i (e + 1) := fun j d h1 h2 hd => by
  rcases Nat.lt_or_ge j e with hlt | hge
  · exact h j d h1 hlt hd
  · obtain rfl : j = e := by omega
    rw [hc] at hd
    cases hd
    exact hb

/-! In place: what is known at the head of a round: j the place to write at, k where the next section begins, p how much has been read. -/
def SqIn (l cur : List UInt8) (j k p : Nat) : Prop := cur.length = l.length ∧ cur.drop p = l.drop p ∧ (cur.take j ++ (cur.drop k).take (p - k)) ++ sq (l.drop p) = sq l ∧ p ≤ l.length ∧ ((j = 0 ∧ k = 0) ∨ (0 < j ∧ j < k ∧ k ≤ p))
theorem SqIn.start (l : List UInt8) : SqIn l l 0 0 0 := ⟨rfl, rfl, by simp, Nat.zero_le _, .inl ⟨rfl, rfl⟩⟩
theorem SqIn.at_ {l cur : List UInt8} {j k p q : Nat} (h : SqIn l cur j k p) (hq : p ≤ q) : cur[q]? = l[q]? := by
  obtain ⟨d, rfl⟩ : ∃ d, q = p + d := ⟨q - p, by omega⟩
  have := congrArg (·[d]?) h.2.1
  simpa using this
theorem sec_next {cur : List UInt8} {k p : Nat} {c : UInt8} (hkp : k ≤ p) (h : cur[p]? = some c) : (cur.drop k).take (p + 1 - k) = (cur.drop k).take (p - k) ++ [c] := by
  obtain ⟨hp, e⟩ := List.getElem?_eq_some_iff.1 h
  rw [show p + 1 - k = (p - k) + 1 by omega, List.take_succ_eq_append_getElem (by simp; omega)]
  simp [show k + (p - k) = p by omega, e]
/-- Behind a byte that is no blank. -/
theorem SqIn.one {l cur : List UInt8} {j k p : Nat} {c : UInt8} (h : SqIn l cur j k p) (hc : l[p]? = some c) (hb : isBl c = false) : SqIn l cur j k (p + 1) := by
  obtain ⟨h1, h2, h3, h4, h5⟩ := h
  have hp := (List.getElem?_eq_some_iff.1 hc).1
  have hcc : cur[p]? = some c := by rw [SqIn.at_ ⟨h1, h2, h3, h4, h5⟩ (Nat.le_refl _)]; exact hc
  refine ⟨h1, ?_, ?_, hp, ?_⟩
  · have := congrArg (List.drop 1) h2
    simpa [List.drop_drop] using this
  · rw [sec_next (by omega) hcc]
    rw [sq_one hc hb] at h3
    simpa using h3
  · omega
theorem drop_sq {l cur : List UInt8} {j k p e : Nat} (h : SqIn l cur j k p) (he : p ≤ e) : cur.drop e = l.drop e := by
  have := congrArg (List.drop (e - p)) h.2.1
  simpa [List.drop_drop, show p + (e - p) = e by omega] using this
theorem set_at {cur : List UInt8} {p : Nat} (m : UInt8) (h : p < cur.length) : (cur.set p m)[p]? = some m := by simp [h]
/-- Behind a run of one blank. -/
theorem SqIn.blank {l cur : List UInt8} {j k p : Nat} (h : SqIn l cur j k p) (hr : RunAt l p (p + 1)) : SqIn l (cur.set p (markAt l p (p + 1))) j k (p + 1) := by
  obtain ⟨h1, h2, h3, h4, h5⟩ := h
  have hp := hr.le
  refine ⟨by simpa using h1, ?_, ?_, hp, by omega⟩
  · rw [List.drop_set_of_lt (by omega)]
    exact drop_sq ⟨h1, h2, h3, h4, h5⟩ (by omega)
  · rw [sq_at hr] at h3
    rw [sec_next (c := markAt l p (p + 1)) (by omega) (set_at _ (by omega)), List.take_set_of_le (by omega), List.drop_set]
    rw [if_neg (by omega), List.take_set_of_le (by omega)]
    simpa using h3
/-- Behind a first run of more blanks. -/
theorem SqIn.first {l cur : List UInt8} {k p e : Nat} (h : SqIn l cur 0 k p) (hr : RunAt l p e) (h2 : p + 1 < e) : SqIn l (cur.set p (markAt l p e)) (p + 1) e e := by
  obtain ⟨h1, h2', h3, h4, h5⟩ := h
  have hp := hr.le
  have hk : k = 0 := by omega
  subst hk
  refine ⟨by simpa using h1, ?_, ?_, hp, .inr ⟨by omega, by omega, Nat.le_refl _⟩⟩
  · rw [List.drop_set_of_lt (by omega)]
    exact drop_sq ⟨h1, h2', h3, h4, h5⟩ (by omega)
  · rw [sq_at hr] at h3
    have e1 : (cur.set p (markAt l p e)).take (p + 1) = cur.take p ++ [markAt l p e] := by
      rw [List.take_succ_eq_append_getElem (by simp; omega), List.take_set_of_le (Nat.le_refl _)]
      simp
    rw [e1, Nat.sub_self, List.take_zero, List.append_nil]
    simpa using h3
/-- The text with a section moved down. -/
def moved (cur : List UInt8) (j k q : Nat) : List UInt8 := cur.take j ++ (cur.drop k).take (q - k) ++ cur.drop (j + (q - k))
theorem SqIn.more {l cur : List UInt8} {j k p e : Nat} (h : SqIn l cur j k p) (hj : 0 < j) (hr : RunAt l p e) (h2 : p + 1 < e) : SqIn l (moved (cur.set p (markAt l p e)) j k (p + 1)) (j + (p + 1 - k)) e e := by
  obtain ⟨h1, h2', h3, h4, h5⟩ := h
  have hp := hr.le
  have hk : j < k ∧ k ≤ p := by omega
  have hlen : (cur.set p (markAt l p e)).length = l.length := by simpa using h1
  have e2 : ((cur.set p (markAt l p e)).drop k).take (p + 1 - k) = (cur.drop k).take (p - k) ++ [markAt l p e] := by
    rw [sec_next (c := markAt l p e) (by omega) (set_at _ (by omega)), List.drop_set, if_neg (by omega), List.take_set_of_le (by omega)]
  have e1 : (cur.set p (markAt l p e)).take j = cur.take j := List.take_set_of_le (by omega)
  have l1 : (cur.take j).length = j := by simp; omega
  have l2 : ((cur.drop k).take (p - k) ++ [markAt l p e]).length = p + 1 - k := by simp; omega
  have l3 : (cur.take j ++ ((cur.drop k).take (p - k) ++ [markAt l p e])).length = j + (p + 1 - k) := by rw [List.length_append, l1, l2]
  unfold moved
  rw [e1, e2]
  refine ⟨?_, ?_, ?_, hp, .inr ⟨by omega, by omega, Nat.le_refl _⟩⟩
  · rw [List.length_append, l3, List.length_drop, hlen]; omega
  · rw [List.drop_append, l3, List.drop_of_length_le (by omega), List.nil_append, List.drop_drop, show j + (p + 1 - k) + (e - (j + (p + 1 - k))) = e by omega, List.drop_set_of_lt (by omega)]
    exact drop_sq ⟨h1, h2', h3, h4, h5⟩ (by omega)
  · rw [Nat.sub_self, List.take_zero, List.append_nil, List.take_append_of_le_length (by omega), List.take_of_length_le (by omega)]
    rw [sq_at hr] at h3
    simpa using h3
/-- The end. -/
theorem SqIn.end_ {l cur : List UInt8} {j k : Nat} (h : SqIn l cur j k l.length) : cur.take j ++ cur.drop k = sq l := by
  obtain ⟨h1, h2, h3, h4, h5⟩ := h
  rw [List.drop_length, sq_nil, List.append_nil] at h3
  have e2 : (cur.drop k).take (l.length - k) = cur.drop k := List.take_of_length_le (by rw [List.length_drop]; omega)
  rw [e2] at h3
  exact h3
/-- Over the byte behind a run, if there is one. -/
theorem SqIn.step {l cur : List UInt8} {j k e : Nat} (h : SqIn l cur j k e) (hs : ∀ c, l[e]? = some c → isBl c = false) : SqIn l cur j k (min (e + 1) l.length) := by
  rcases Nat.lt_or_ge e l.length with hlt | hge
  · rw [Nat.min_eq_left (by omega)]
    exact h.one (List.getElem?_eq_getElem hlt) (hs _ (List.getElem?_eq_getElem hlt))
  · have := h.2.2.2.1
    rw [Nat.min_eq_right (by omega)]
    rwa [show l.length = e by omega]
theorem RunAt.mk' {l : List UInt8} {i e : Nat} (h1 : i < e) (h2 : e ≤ l.length) (h3 : BlTo l i e) (h4 : ∀ c, l[e]? = some c → isBl c = false) : RunAt l i e := ⟨h1, h2, h3, h4⟩
theorem moved_take_len {cur : List UInt8} {j k q : Nat} (hkq : k ≤ q) (hq : q ≤ cur.length) (hj : j ≤ cur.length) : ((moved cur j k q).take (j + (q - k))).length = j + (q - k) := by
  have l1 : (cur.take j).length = j := by rw [List.length_take]; omega
  have l2 : ((cur.drop k).take (q - k)).length = q - k := by rw [List.length_take, List.length_drop]; omega
  rw [List.length_take]
  unfold moved
  rw [List.length_append, List.length_append, l1, l2]
  omega
theorem moved_at {cur : List UInt8} {j k q : Nat} : moved cur j k q = cur.take j ++ ((cur.drop k).take (q - k)).take (q - k) ++ cur.drop (j + (q - k)) := by
  unfold moved
  rw [List.take_take, Nat.min_self]
/-- The end of a text whose last section is moved down. -/
theorem SqIn.endM {l cur : List UInt8} {j k : Nat} (h : SqIn l cur j k l.length) : (moved cur j k l.length).take (j + (l.length - k)) = sq l := by
  have e := h.end_
  obtain ⟨h1, h2, h3, h4, h5⟩ := h
  have l1 : (cur.take j).length = j := by simp; omega
  have e2 : (cur.drop k).take (l.length - k) = cur.drop k := List.take_of_length_le (by simp; omega)
  have l2 : (cur.take j ++ cur.drop k).length = j + (l.length - k) := by simp; omega
  unfold moved
  rw [e2, List.take_append_of_le_length (by omega), List.take_of_length_le (by omega), e]
theorem SqIn.end0 {l cur : List UInt8} {j k : Nat} (h : SqIn l cur j k l.length) (hj : j = 0) : cur = sq l := by
  have e := h.end_
  obtain ⟨h1, h2, h3, h4, h5⟩ := h
  have hk : k = 0 := by omega
  subst hj hk
  simpa using e
theorem SqIn.end1 {l cur : List UInt8} {j k : Nat} {x : UInt8} (h : SqIn l cur j k l.length) (hj : j = 1) (hx : cur[0]? = some x) : (cur.set (k - 1) x).drop (k - 1) = sq l := by
  have e := h.end_
  obtain ⟨h1, h2, h3, h4, h5⟩ := h
  subst hj
  have hk : 1 < k ∧ k ≤ l.length := by omega
  obtain ⟨k', rfl⟩ : ∃ k', k = k' + 1 := ⟨k - 1, by omega⟩
  rw [Nat.add_sub_cancel]
  have hk' : k' < (cur.set k' x).length := by simp; omega
  rw [List.drop_eq_getElem_cons hk', ← e]
  have e3 : cur.take 1 = [x] := by
    cases cur with
    | nil => simp at hx
    | cons y t => simp at hx ⊢; exact hx
  rw [e3]
  simp [List.drop_set_of_lt (show k' < k' + 1 by omega)]
theorem SqIn.endK {l cur : List UInt8} {j k : Nat} (h : SqIn l cur j k l.length) (hk : k = l.length) : cur.take j = sq l := by
  have e := h.end_
  obtain ⟨h1, h2, h3, h4, h5⟩ := h
  rw [List.drop_of_length_le (by omega), List.append_nil] at e
  exact e
end Go.Proofs.YtnepjlfkbmindaaDoor
