/- Plain facts on clean paths, no program in sight: what the loop of CleanPath keeps at every round's head. -/
import Derived.Lib.CleanFns
import Derived.Lib.CleanInv
import Derived.Lib.CleanWalkFns
namespace Go.Proofs.Ytbpcmemnjeaifaa.Cp
open Go.Lib

/-- One element met, the elements kept so far in their order. -/
def step (E : List (List UInt8)) (e : List UInt8) : List (List UInt8) :=
  if e = [] ∨ e = [46] then E else if e = [46, 46] then E.dropLast else E ++ [e]

/-- The elements, each behind a slash. -/
def flat (E : List (List UInt8)) : List UInt8 := E.flatMap (47 :: ·)

/-- The buffer's text. -/
def joined (E : List (List UInt8)) : List UInt8 := if E = [] then [47] else flat E

/-- The text behind the loop; T: a slash is owed. -/
def res (F : List (List UInt8)) (T : Bool) : List UInt8 := if T = true ∧ 1 < (joined F).length then joined F ++ [47] else joined F

def lastEl (l : List UInt8) : List UInt8 := (Pa.els l).getLast?.getD []

/-- Does the text end with a point alone? -/
def lastDot (l : List UInt8) : Bool := lastEl l == [46]

/-- Is a slash owed at the end? -/
def trail (l : List UInt8) : Bool := (decide (1 < l.length) && l.getLast? == some 47) || lastDot l

/-- The clean path. -/
def clean (l : List UInt8) : List UInt8 :=
  if flat ((Pa.els l).foldl step []) = [] ∨ lastEl l = [] ∨ lastEl l = [46] then flat ((Pa.els l).foldl step []) ++ [47] else flat ((Pa.els l).foldl step [])

theorem els_nil : Pa.els [] = [[]] := rfl
theorem els_slash (t : List UInt8) : Pa.els (47 :: t) = [] :: Pa.els t := by simp [Pa.els]
theorem els_ne (l : List UInt8) : Pa.els l ≠ [] := by
  cases l with
  | nil => simp [Pa.els]
  | cons c t =>
    unfold Pa.els
    split
    · simp
    · split <;> simp

theorem els_cons (c : UInt8) (t : List UInt8) (h : c ≠ 47) : ∃ e r, Pa.els t = e :: r ∧ Pa.els (c :: t) = (c :: e) :: r := by
  cases hr : Pa.els t with
  | nil => exact absurd hr (els_ne t)
  | cons e r => exact ⟨e, r, rfl, by rw [Pa.els, if_neg h, hr]⟩

/-- An element and what is behind it. -/
theorem els_elem : ∀ (e t : List UInt8), (∀ x ∈ e, x ≠ 47) → (t = [] ∨ ∃ u, t = 47 :: u) →
    Pa.els (e ++ t) = e :: (Pa.els t).tail
  | [], t, _, ht => by
    rcases ht with rfl | ⟨u, rfl⟩
    · rfl
    · rw [List.nil_append, els_slash]; rfl
  | c :: e, t, he, ht => by
    obtain ⟨e', r, h1, h2⟩ := els_cons c (e ++ t) (he c (by simp))
    have ih := els_elem e t (fun x hx => he x (by simp [hx])) ht
    rw [ih] at h1
    simp only [List.cons.injEq] at h1
    rw [List.cons_append, h2, ← h1.1, ← h1.2]

theorem els_elem_slash (e u : List UInt8) (he : ∀ x ∈ e, x ≠ 47) : Pa.els (e ++ 47 :: u) = e :: Pa.els u := by
  rw [els_elem e _ he (.inr ⟨u, rfl⟩), els_slash]; rfl

theorem els_elem_end (e : List UInt8) (he : ∀ x ∈ e, x ≠ 47) : Pa.els e = [e] := by
  have := els_elem e [] he (.inl rfl)
  rw [List.append_nil] at this
  rw [this]; rfl

theorem step_nil (E : List (List UInt8)) : step E [] = E := by simp [step]
theorem step_dot (E : List (List UInt8)) : step E [46] = E := by simp [step]
theorem step_dots (E : List (List UInt8)) : step E [46, 46] = E.dropLast := by simp [step]

theorem lastEl_cons (e : List UInt8) (t l : List UInt8) (h : Pa.els t = e :: Pa.els l) : lastEl t = lastEl l := by
  unfold lastEl
  rw [h]
  cases hl : Pa.els l with
  | nil => exact absurd hl (els_ne l)
  | cons a b => simp [List.getLast?_cons_cons]

def Good (E : List (List UInt8)) : Prop := ∀ e ∈ E, e ≠ [] ∧ ∀ x ∈ e, x ≠ 47

theorem flat_append (E : List (List UInt8)) (e : List UInt8) : flat (E ++ [e]) = flat E ++ (47 :: e) := by simp [flat]
theorem flat_eq_nil (E : List (List UInt8)) : flat E = [] ↔ E = [] := by
  cases E <;> simp [flat]

theorem Good.push {E : List (List UInt8)} (h : Good E) {e : List UInt8} (h1 : e ≠ []) (h2 : ∀ x ∈ e, x ≠ 47) : Good (E ++ [e]) := by
  intro y hy
  rcases List.mem_append.1 hy with hy | hy
  · exact h y hy
  · obtain rfl := List.mem_singleton.1 hy
    exact ⟨h1, h2⟩

theorem Good.pop {E : List (List UInt8)} (h : Good E) : Good E.dropLast := fun y hy => h y (List.dropLast_subset E hy)

theorem joined_length_one {E : List (List UInt8)} (h : Good E) : (joined E).length ≤ 1 ↔ E = [] := by
  cases E with
  | nil => simp [joined]
  | cons e r =>
    have := (h e (by simp)).1
    cases e with
    | nil => exact absurd rfl this
    | cons a b => simp [joined, flat]

theorem joined_pos (E : List (List UInt8)) : 0 < (joined E).length := by
  cases E with
  | nil => simp [joined]
  | cons e r => simp [joined, flat]

/-- Stepping back from the end of an element stops at its slash. -/
theorem backTo_elem (p : List UInt8) (dd : Nat) (hp : p.length = dd ∨ dd < p.length) : ∀ (e : List UInt8), (∀ x ∈ e, x ≠ 47) →
    Pa.backTo (p ++ 47 :: e) dd (p.length + e.length) = p.length := by
  intro e he
  have key : ∀ k, k ≤ e.length → Pa.backTo (p ++ 47 :: e) dd (p.length + k) = p.length := by
    intro k
    induction k with
    | zero =>
      intro _
      apply Pa.backTo_stop
      rintro ⟨_, h⟩
      apply h
      simp
    | succ k ih =>
      intro hk
      have hne : (p ++ 47 :: e)[p.length + (k + 1)]? ≠ some 47 := by
        rw [List.getElem?_append_right (by omega), show p.length + (k + 1) - p.length = k + 1 from by omega, List.getElem?_cons_succ, List.getElem?_eq_getElem (by omega)]
        intro h
        exact he _ (List.getElem_mem _) (Option.some.inj h)
      rw [Pa.backTo_on _ _ _ ⟨by omega, hne⟩]
      exact ih (by omega)
  exact key e.length (Nat.le_refl _)

/-- At the head of the text the slash itself stays. -/
theorem backTo_first (e : List UInt8) (he : ∀ x ∈ e, x ≠ 47) (h0 : e ≠ []) : Pa.backTo (47 :: e) 1 e.length = 1 := by
  have key : ∀ k, k + 1 ≤ e.length → Pa.backTo (47 :: e) 1 (k + 1) = 1 := by
    intro k
    induction k with
    | zero => intro _; apply Pa.backTo_stop; omega
    | succ k ih =>
      intro hk
      have hne : (47 :: e)[k + 1 + 1]? ≠ some 47 := by
        rw [List.getElem?_cons_succ, List.getElem?_eq_getElem (by omega)]
        intro h
        exact he _ (List.getElem_mem _) (Option.some.inj h)
      rw [Pa.backTo_on _ _ _ ⟨by omega, hne⟩]
      exact ih (by omega)
  cases e with
  | nil => exact absurd rfl h0
  | cons a b => exact key b.length (by simp)

theorem joined_pop {E : List (List UInt8)} (h : Good E) (hE : E ≠ []) :
    (joined E).take (Pa.backTo (joined E) 1 ((joined E).length - 1)) = joined E.dropLast := by
  obtain ⟨A, e, rfl⟩ : ∃ A e, E = A ++ [e] := ⟨E.dropLast, E.getLast hE, (List.dropLast_concat_getLast hE).symm⟩
  have he := h e (by simp)
  have hj : joined (A ++ [e]) = flat A ++ 47 :: e := by simp [joined, flat_append]
  rw [hj, List.dropLast_concat]
  have hl : (flat A ++ 47 :: e).length - 1 = (flat A).length + e.length := by simp
  rw [hl]
  by_cases hA : A = []
  · subst hA
    simp only [flat, List.flatMap_nil, List.nil_append, List.length_nil, Nat.zero_add]
    rw [backTo_first e he.2 he.1]
    simp [joined]
  · have hA1 : 1 < (flat A).length := by
      have := mt (joined_length_one (E := A) (fun x hx => h x (by simp [hx]))).1 hA
      have hj2 : joined A = flat A := by simp [joined, hA]
      rw [hj2] at this; omega
    rw [backTo_elem (flat A) 1 (.inr hA1) e he.2]
    simp [joined, hA]

structure Inv (l : List UInt8) (d : Nat) (F : List (List UInt8)) (T : Bool) (o : List UInt8) (r : Nat) (tr : Bool) : Prop where
  st : ∃ E, Good E ∧ o = joined E ∧ (Pa.els (l.drop r)).foldl step E = F
  le : o.length ≤ r + d
  sep : o.length = r + d → l.length ≤ r ∨ l[r]? = some 47 ∨ o.length ≤ 1
  tr1 : (tr || lastDot (l.drop r)) = T
  tr2 : tr = true → l.getLast? = some 47 ∨ l.length ≤ r
  fin : l.length ≤ r → T = true → o.length < l.length + d
  rn : r ≤ l.length + 1

variable {l : List UInt8} {d : Nat} {F : List (List UInt8)} {T : Bool} {o : List UInt8} {r : Nat} {tr : Bool}

theorem drop_cons {l : List UInt8} {r : Nat} {x : UInt8} (h : l[r]? = some x) : l.drop r = x :: l.drop (r + 1) := by
  obtain ⟨hlt, e⟩ := List.getElem?_eq_some_iff.1 h
  rw [List.drop_eq_getElem_cons hlt, e]

theorem Inv.slash (h : Inv l d F T o r tr) (hx : l[r]? = some 47) : Inv l d F T o (r + 1) tr := by
  have hlt := Pa.lt_of_some hx
  obtain ⟨E, hG, ho, hF⟩ := h.st
  have hd := drop_cons hx
  refine ⟨⟨E, hG, ho, ?_⟩, by have := h.le; omega, fun e => by have := h.le; omega, ?_, fun e => ?_, fun _ _ => by have := h.le; omega, by omega⟩
  · rw [hd, els_slash, List.foldl_cons, step_nil] at hF; exact hF
  · have := h.tr1
    rw [hd] at this
    unfold lastDot at this ⊢
    rwa [lastEl_cons [] _ _ (els_slash _)] at this
  · rcases h.tr2 e with h2 | h2
    · exact .inl h2
    · exact .inr (by omega)

/-- '.' at the end. -/
theorem Inv.dotEnd (h : Inv l d F T o r tr) (hx : l[r]? = some 46) (he : r + 1 = l.length) : Inv l d F T o (r + 1) true := by
  obtain ⟨E, hG, ho, hF⟩ := h.st
  have hd := drop_cons hx
  have hnil : l.drop (r + 1) = [] := List.drop_eq_nil_of_le (by omega)
  rw [hnil] at hd
  have hT : T = true := by
    have := h.tr1
    rw [hd] at this
    rw [← this]
    have : lastDot [46] = true := by decide
    rw [this, Bool.or_true]
  refine ⟨⟨E, hG, ho, ?_⟩, by have := h.le; omega, fun e => by have := h.le; omega, by rw [hT]; rfl, fun _ => .inr (by omega), fun _ _ => by have := h.le; omega, by omega⟩
  rw [hd, els_elem_end [46] (by decide), List.foldl_cons, step_dot] at hF
  rw [hnil]
  exact hF

/-- './' -/
theorem Inv.dotSlash (h : Inv l d F T o r tr) (hx : l[r]? = some 46) (hy : l[r + 1]? = some 47) : Inv l d F T o (r + 2) tr := by
  have hlt := Pa.lt_of_some hy
  obtain ⟨E, hG, ho, hF⟩ := h.st
  have hd := drop_cons hx
  rw [drop_cons hy] at hd
  have hels := els_elem_slash [46] (l.drop (r + 2)) (by decide)
  refine ⟨⟨E, hG, ho, ?_⟩, by have := h.le; omega, fun e => by have := h.le; omega, ?_, fun e => ?_, fun _ _ => by have := h.le; omega, by omega⟩
  · rw [hd, show (46 :: 47 :: l.drop (r + 1 + 1)) = [46] ++ 47 :: l.drop (r + 2) from rfl, hels, List.foldl_cons, step_dot] at hF
    exact hF
  · have := h.tr1
    rw [hd, show (46 :: 47 :: l.drop (r + 1 + 1)) = [46] ++ 47 :: l.drop (r + 2) from rfl] at this
    unfold lastDot at this ⊢
    rwa [lastEl_cons [46] _ _ hels] at this
  · rcases h.tr2 e with h2 | h2
    · exact .inl h2
    · exact .inr (by omega)

/-- '..', at the end or ahead of a slash; what is left of the text. -/
theorem Inv.dots (h : Inv l d F T o r tr) (hx : l[r]? = some 46) (hy : l[r + 1]? = some 46) (hz : r + 2 = l.length ∨ l[r + 2]? = some 47) :
    Inv l d F T (if o.length ≤ 1 then o else o.take (Pa.backTo o 1 (o.length - 1))) (r + 3) tr := by
  have hlt := Pa.lt_of_some hy
  obtain ⟨E, hG, ho, hF⟩ := h.st
  have hnew : (if o.length ≤ 1 then o else o.take (Pa.backTo o 1 (o.length - 1))) = joined E.dropLast := by
    by_cases h1 : o.length ≤ 1
    · rw [if_pos h1]
      have hE : E = [] := (joined_length_one hG).1 (by rw [← ho]; exact h1)
      rw [ho, hE]; rfl
    · rw [if_neg h1, ho]
      exact joined_pop hG (fun e => h1 (by rw [ho]; exact (joined_length_one hG).2 e))
  have hle : (if o.length ≤ 1 then o else o.take (Pa.backTo o 1 (o.length - 1))).length ≤ o.length := by
    split
    · exact Nat.le_refl _
    · rw [List.length_take]; omega
  rw [hnew] at hle ⊢
  have hd := drop_cons hx
  rw [drop_cons hy] at hd
  have hE2 : (Pa.els (l.drop (r + 3))).foldl step E.dropLast = F ∧ lastDot (l.drop r) = lastDot (l.drop (r + 3)) := by
    rcases hz with hz | hz
    · have hnil : l.drop (r + 1 + 1) = [] := List.drop_eq_nil_of_le (by omega)
      have hnil3 : l.drop (r + 3) = [] := List.drop_eq_nil_of_le (by omega)
      rw [hnil] at hd
      rw [hd, els_elem_end [46, 46] (by decide), List.foldl_cons, step_dots] at hF
      rw [hnil3, hd]
      exact ⟨hF, by decide⟩
    · rw [drop_cons hz] at hd
      have hels := els_elem_slash [46, 46] (l.drop (r + 3)) (by decide)
      rw [hd, show (46 :: 46 :: 47 :: l.drop (r + 2 + 1)) = [46, 46] ++ 47 :: l.drop (r + 3) from rfl] at hF ⊢
      rw [hels, List.foldl_cons, step_dots] at hF
      refine ⟨hF, ?_⟩
      unfold lastDot
      rw [lastEl_cons [46, 46] _ _ hels]
  refine ⟨⟨_, hG.pop, rfl, hE2.1⟩, by have := h.le; omega, fun e => by have := h.le; omega, by rw [← hE2.2]; exact h.tr1, fun e => ?_, fun _ _ => by have := h.le; omega, by omega⟩
  rcases h.tr2 e with h2 | h2
  · exact .inl h2
  · exact .inr (by omega)

/-- Where a slash is owed there is room for it. -/
theorem Inv.room (h : Inv l d F T o r tr) (hr : r < l.length) (h47 : l[r]? ≠ some 47) (h1 : 1 < o.length) : o.length < r + d := by
  have := h.le
  by_cases e : o.length = r + d
  · rcases h.sep e with h2 | h2 | h2
    · omega
    · exact absurd h2 h47
    · omega
  · omega

/-- The place of an element's first byte. -/
structure El (l : List UInt8) (r : Nat) : Prop where
  lt : r < l.length
  n47 : l[r]? ≠ some 47
  nd : ¬ (l[r]? = some 46 ∧ (r + 1 = l.length ∨ l[r + 1]? = some 47))
  ndd : ¬ (l[r]? = some 46 ∧ l[r + 1]? = some 46 ∧ (r + 2 = l.length ∨ l[r + 2]? = some 47))

theorem Inv.elem (h : Inv l d F T o r tr) (hc : El l r) (j : Nat) (hj : 0 < j) (ha : ∀ i, i < j → ∃ x, l[r + i]? = some x ∧ x ≠ 47) (hs : r + j = l.length ∨ l[r + j]? = some 47) :
    Inv l d F T ((if 1 < o.length then o ++ [47] else o) ++ (l.drop r).take j) (r + j) tr := by
  obtain ⟨E, hG, ho, hF⟩ := h.st
  have hjn : r + j ≤ l.length := by
    rcases hs with e | e
    · omega
    · have := Pa.lt_of_some e; omega
  obtain ⟨e, he⟩ : ∃ e, e = (l.drop r).take j := ⟨_, rfl⟩
  have hel : e.length = j := by rw [he, List.length_take, List.length_drop]; omega
  have hget : ∀ i, i < j → e[i]? = l[r + i]? := fun i hi => by rw [he, List.getElem?_take, if_pos hi, List.getElem?_drop]
  have hen : ∀ x ∈ e, x ≠ 47 := by
    intro x hx
    obtain ⟨i, hi⟩ := List.getElem?_of_mem hx
    have hij : i < j := by have := Pa.lt_of_some hi; omega
    rw [hget i hij] at hi
    obtain ⟨y, hy, hne⟩ := ha i hij
    rw [hy] at hi
    exact (Option.some.inj hi) ▸ hne
  have hsplit : l.drop r = e ++ l.drop (r + j) := by
    rw [he, ← List.drop_drop]; exact (List.take_append_drop j _).symm
  have he0 : e ≠ [] := by intro h0; rw [h0] at hel; simp at hel; omega
  have hstep : step E e = E ++ [e] := by
    have h1 : e ≠ [46] := by
      intro h1
      have hj1 : j = 1 := by rw [h1] at hel; simpa using hel.symm
      subst hj1
      refine hc.nd ⟨?_, hs⟩
      have := hget 0 (by omega)
      rw [h1] at this; simpa using this.symm
    have h2 : e ≠ [46, 46] := by
      intro h1
      have hj1 : j = 2 := by rw [h1] at hel; simpa using hel.symm
      subst hj1
      refine hc.ndd ⟨?_, ?_, hs⟩
      · have := hget 0 (by omega)
        rw [h1] at this; simpa using this.symm
      · have := hget 1 (by omega)
        rw [h1] at this; simpa using this.symm
    simp [step, he0, h1, h2]
  have hnew : (if 1 < o.length then o ++ [47] else o) ++ e = joined (E ++ [e]) := by
    by_cases hE : E = []
    · have : o.length ≤ 1 := by rw [ho, hE]; decide
      rw [if_neg (by omega), ho, hE]
      simp [joined, flat]
    · have h1 : ¬ o.length ≤ 1 := by rw [ho]; exact mt (joined_length_one hG).1 hE
      rw [if_pos (by omega), ho]
      simp [joined, hE, flat_append]
  have hrest : (Pa.els (l.drop (r + j))).foldl step (E ++ [e]) = F ∧ (l.length ≤ r + j → lastDot (l.drop r) = false) ∧ (r + j < l.length → lastDot (l.drop r) = lastDot (l.drop (r + j))) := by
    rw [hsplit] at hF
    by_cases hend : r + j = l.length
    · have hnil : l.drop (r + j) = [] := List.drop_eq_nil_of_le (by omega)
      rw [hnil, List.append_nil, els_elem_end e hen, List.foldl_cons, hstep] at hF
      rw [hnil]
      refine ⟨hF, fun _ => ?_, fun hh => by omega⟩
      rw [hsplit, hnil, List.append_nil]
      unfold lastDot lastEl
      rw [els_elem_end e hen]
      have h1 : e ≠ [46] := by
        intro h1
        rw [h1] at hstep
        rw [step_dot] at hstep
        have := congrArg List.length hstep
        simp at this
      simpa using h1
    · have hs' : l[r + j]? = some 47 := hs.resolve_left hend
      have hd := drop_cons hs'
      have hels := els_elem_slash e (l.drop (r + j + 1)) hen
      rw [hd] at hF ⊢
      rw [hels, List.foldl_cons, hstep] at hF
      rw [els_slash, List.foldl_cons, step_nil]
      refine ⟨hF, fun hh => by have := Pa.lt_of_some hs'; omega, fun _ => ?_⟩
      rw [hsplit, hd]
      unfold lastDot
      rw [lastEl_cons e _ _ hels, lastEl_cons [] _ _ (els_slash _)]
  have hlen : (joined (E ++ [e])).length ≤ r + j + d := by
    rw [← hnew, List.length_append, hel]
    split
    · have := h.room hc.lt hc.n47 (by assumption)
      simp; omega
    · have := h.le; omega
  have hsep : l.length ≤ r + j ∨ l[r + j]? = some 47 ∨ (joined (E ++ [e])).length ≤ 1 := by
    rcases hs with e1 | e1
    · exact .inl (by omega)
    · exact .inr (.inl e1)
  have hlast : l.length ≤ r + j → l.getLast? ≠ some 47 := by
    intro hle
    rw [List.getLast?_eq_getElem?]
    obtain ⟨x, hx, hne⟩ := ha (j - 1) (by omega)
    rw [show l.length - 1 = r + (j - 1) from by omega, hx]
    intro h1; exact hne (Option.some.inj h1)
  rw [← he, hnew]
  have htrF : l.length ≤ r + j → tr = false := by
    intro hle
    cases htr : tr with
    | false => rfl
    | true =>
      rcases h.tr2 htr with h2 | h2
      · exact absurd h2 (hlast hle)
      · have := hc.lt; omega
  refine ⟨⟨_, hG.push he0 hen, rfl, hrest.1⟩, hlen, fun _ => hsep, ?_, fun ht => ?_, ?_, by omega⟩
  · by_cases hle : l.length ≤ r + j
    · have h1 := h.tr1
      rw [hrest.2.1 hle, htrF hle] at h1
      rw [htrF hle, ← h1, List.drop_eq_nil_of_le hle]
      decide
    · rw [← hrest.2.2 (by omega)]; exact h.tr1
  · rcases h.tr2 ht with h2 | h2
    · exact .inl h2
    · exact .inr (by omega)
  · intro hle hT
    have h1 := h.tr1
    rw [hrest.2.1 hle, htrF hle] at h1
    rw [← h1] at hT
    cases hT

/-- At the loop's end. -/
theorem Inv.done (h : Inv l d F T o r tr) (hr : l.length ≤ r) : o = joined F ∧ tr = T ∧ Good F := by
  obtain ⟨E, hG, ho, hF⟩ := h.st
  rw [List.drop_eq_nil_of_le hr, els_nil, List.foldl_cons, step_nil] at hF
  have h1 := h.tr1
  rw [List.drop_eq_nil_of_le hr] at h1
  have : lastDot [] = false := by decide
  rw [this, Bool.or_false] at h1
  have hF' : E = F := hF
  subst hF'
  exact ⟨ho, h1, hG⟩

theorem take_one {l : List UInt8} {x : UInt8} (h : l[0]? = some x) : l.take 1 = [x] := by
  cases l with
  | nil => cases h
  | cons a t => simp at h; simp [h]

theorem last_eq (s : ByteArray) (h : s.size - 1 < s.size) : s.data.toList.getLast? = some (s[s.size - 1]'h) := by
  rw [List.getLast?_eq_getElem?, ← Lib.size_eq]
  exact Pa.at_eq s _ h

/-- At the loop's start: d is 0 where the text begins with a slash. -/
theorem Inv.start {l : List UInt8} {d : Nat} {F : List (List UInt8)} {T tr0 : Bool} (h0 : 0 < l.length) (hd : d ≤ 1) (hs : d = 0 → l[0]? = some 47) (hF : (Pa.els l).foldl step [] = F)
    (hT : (tr0 || lastDot l) = T) (htr : tr0 = (decide (1 < l.length) && l.getLast? == some 47)) : Inv l d F T [47] (1 - d) tr0 := by
  have htr2 : tr0 = true → l.getLast? = some 47 ∧ 1 < l.length := by
    intro h
    rw [htr] at h
    simp at h
    exact ⟨h.2, h.1⟩
  by_cases hd0 : d = 0
  · subst hd0
    have h1 := drop_cons (hs rfl)
    rw [List.drop_zero] at h1
    refine ⟨⟨[], (fun e he => by cases he), rfl, ?_⟩, Nat.le_refl _, fun _ => .inr (.inr (Nat.le_refl _)), ?_, fun h => .inl (htr2 h).1, ?_, by omega⟩
    · rw [h1, els_slash, List.foldl_cons, step_nil] at hF; exact hF
    · rw [h1] at hT
      unfold lastDot at hT ⊢
      rwa [lastEl_cons [] _ _ (els_slash _)] at hT
    · intro hle hT1
      exfalso
      have hl1 : l.drop (0 + 1) = [] := List.drop_eq_nil_of_le (by omega)
      rw [hl1] at h1
      rw [← hT] at hT1
      rcases Bool.or_eq_true _ _ ▸ hT1 with h | h
      · have := (htr2 h).2; omega
      · rw [h1] at h; revert h; decide
  · obtain rfl : d = 1 := by omega
    exact ⟨⟨[], (fun e he => by cases he), rfl, by rw [List.drop_zero]; exact hF⟩, Nat.le_refl _, fun _ => .inr (.inr (Nat.le_refl _)), by rw [List.drop_zero]; exact hT, fun h => .inl (htr2 h).1, fun h => by omega, by omega⟩

end Go.Proofs.Ytbpcmemnjeaifaa.Cp
