/- Plain facts on the text of tokens: where its first mark stands. -/
import Derived.Test.YtcobbbbnmepmfaaSmall
import Derived.Test.YtcobbbbnmepmfaaIns
namespace Go.Proofs.Ytcobbbbnmepmfaa
open Tr

theorem wilds_append (a b : Bytes) : wilds (a ++ b) = wilds a + wilds b := by simp [wilds]
theorem wilds_plain : ∀ (q : Bytes), (∀ c ∈ q, plain c) → wilds q = 0
  | [], _ => rfl
  | c :: q, h => by
    have h1 := h c (by simp)
    have ih := wilds_plain q (fun x hx => h x (by simp [hx]))
    unfold wilds at ih ⊢
    rw [List.filter_cons, if_neg (by simp [h1.1, h1.2])]
    exact ih
theorem wilds_cons_wild (c : UInt8) (h : c = 58 ∨ c = 42) (l : Bytes) : wilds (c :: l) = wilds l + 1 := by
  unfold wilds
  rcases h with rfl | rfl <;> simp
theorem wilds_cons_plain (c : UInt8) (h : plain c) (l : Bytes) : wilds (c :: l) = wilds l := by
  unfold wilds
  rw [List.filter_cons, if_neg (by simp [h.1, h.2])]

theorem wilds_enc : ∀ (s : List Tok) (sl : Bool), Val sl s → wilds (enc s) = cnt s
  | [], _, _ => rfl
  | .b c :: s, _, h => by
    rw [enc, wilds_cons_plain c h.1, wilds_enc s _ h.2.2, cnt]
  | .par x :: s, _, h => by
    rw [enc, wilds_cons_wild _ (.inl rfl), wilds_append, wilds_plain x (fun c hc => (h.2.1.2 c hc).1), wilds_enc s _ h.2.2.2, cnt]
    omega
  | .all z :: s, _, h => by
    obtain ⟨_, hz, rfl⟩ := h
    rw [enc, wilds_cons_plain 47 ⟨by decide, by decide⟩, wilds_cons_wild _ (.inr rfl), wilds_append, wilds_plain z (fun c hc => (hz.2 c hc).1)]
    rfl

/-- The first mark of a text: a parameter's, or that of all that is left behind its slash. -/
theorem first_wild : ∀ (P : List Tok) (sl : Bool) (i : Nat) (c : UInt8), Val sl P → (∀ j, j < i → ∃ y, (enc P)[j]? = some y ∧ plain y) → (enc P)[i]? = some c → (c = 58 ∨ c = 42) →
    (c = 58 ∧ ∃ q x s3, q.length = i ∧ P = bs q ++ .par x :: s3 ∧ name x ∧ slashed s3 ∧ Val false s3 ∧ (∀ y ∈ q, plain y) ∧ (q ≠ [] → q.getLast? = some 47)) ∨
    (c = 42 ∧ ∃ q z, q.length + 1 = i ∧ P = bs q ++ [.all z] ∧ name z ∧ (∀ y ∈ q, plain y) ∧ (q ≠ [] → q.getLast? ≠ some 47))
  | [], _, i, c, _, _, h, _ => by cases h
  | .b u :: s, sl, 0, c, hv, _, h, hw => by
    have : u = c := by simpa [enc] using h
    subst this
    rcases hw with h1 | h1
    · exact absurd h1 hv.1.1
    · exact absurd h1 hv.1.2
  | .b u :: s, sl, i + 1, c, hv, hp, h, hw => by
    have h' : (enc s)[i]? = some c := by simpa [enc] using h
    have ih := first_wild s (u == 47) i c hv.2.2 (fun j hj => by have := hp (j + 1) (by omega); simpa [enc] using this) h' hw
    rcases ih with ⟨h1, q, x, s3, h2, h3, h4, h5, h6, h7, h8⟩ | ⟨h1, q, z, h2, h3, h4, h5, h6⟩
    · refine .inl ⟨h1, u :: q, x, s3, by simp [h2], by rw [h3]; rfl, h4, h5, h6, ?_, ?_⟩
      · intro y hy
        rcases List.mem_cons.1 hy with rfl | hy
        · exact hv.1
        · exact h7 y hy
      · intro _
        cases q with
        | nil =>
          have hv2 := hv.2.2
          rw [h3] at hv2
          have h9 : (u == 47) = true := hv2.1
          have h10 : u = 47 := by simpa using h9
          simp [h10]
        | cons a b => rw [List.getLast?_cons_cons]; exact h8 (by simp)
    · refine .inr ⟨h1, u :: q, z, by simp [h2], by rw [h3]; rfl, h4, ?_, ?_⟩
      · intro y hy
        rcases List.mem_cons.1 hy with rfl | hy
        · exact hv.1
        · exact h5 y hy
      · intro _
        cases q with
        | nil =>
          have hv2 := hv.2.2
          rw [h3] at hv2
          have h9 : (u == 47) = false := hv2.1
          have h10 : u ≠ 47 := by simpa using h9
          simp [h10]
        | cons a b => rw [List.getLast?_cons_cons]; exact h6 (by simp)
  | .par x :: s, sl, 0, c, hv, _, h, _ => by
    have : (58 : UInt8) = c := by simpa [enc] using h
    subst this
    exact .inl ⟨rfl, [], x, s, rfl, rfl, hv.2.1, hv.2.2.1, hv.2.2.2, (fun y hy => by cases hy), fun h => absurd rfl h⟩
  | .par x :: s, sl, i + 1, c, _, hp, _, _ => by
    obtain ⟨y, h1, h2⟩ := hp 0 (by omega)
    have : (58 : UInt8) = y := by simpa [enc] using h1
    exact absurd this.symm h2.1
  | .all z :: s, sl, 0, c, _, _, h, hw => by
    have : (47 : UInt8) = c := by simpa [enc] using h
    subst this
    rcases hw with h1 | h1 <;> exact absurd h1 (by decide)
  | .all z :: s, sl, 1, c, hv, _, h, _ => by
    have : (42 : UInt8) = c := by simpa [enc] using h
    subst this
    obtain ⟨_, hz, rfl⟩ := hv
    exact .inr ⟨rfl, [], z, rfl, rfl, hz, (fun y hy => by cases hy), fun h => absurd rfl h⟩
  | .all z :: s, sl, i + 2, c, _, hp, _, _ => by
    obtain ⟨y, h1, h2⟩ := hp 1 (by omega)
    have : (42 : UInt8) = y := by simpa [enc] using h1
    exact absurd this.symm h2.2

theorem enc_nil_iff (s : List Tok) : enc s = [] ↔ s = [] := by
  cases s with
  | nil => simp [enc]
  | cons x s => cases x <;> simp [enc]

theorem Cp_drop_cons {l : Bytes} {r : Nat} {x : UInt8} (h : l[r]? = some x) : l.drop r = x :: l.drop (r + 1) := by
  obtain ⟨hlt, e⟩ := List.getElem?_eq_some_iff.1 h
  rw [List.drop_eq_getElem_cons hlt, e]

/-- What is known at a parameter's mark. -/
structure ColonAt (L : Bytes) (P : List Tok) (off i np : Nat) (q x : Bytes) (s3 : List Tok) : Prop where
  p : P = bs q ++ .par x :: s3
  ql : off + q.length = i
  nm : name x
  sl : slashed s3
  val : Val false s3
  qp : ∀ y ∈ q, plain y
  ql47 : q ≠ [] → q.getLast? = some 47
  rest : L.drop (i + 1 + x.length) = enc s3
  le : i + 1 + x.length ≤ L.length
  at_ : ∀ j, j < x.length → ∃ y, L[i + 1 + j]? = some y ∧ plain y ∧ y ≠ 47
  stop : i + 1 + x.length = L.length ∨ L[i + 1 + x.length]? = some 47
  np : np = cnt s3 + 1
  np1 : wilds (L.drop (i + 1)) = cnt s3
  q_ : (L.drop off).take (i - off) = q
  x_ : (L.drop i).take (x.length + 1) = 58 :: x

theorem colon_at {L : Bytes} {P : List Tok} {sl : Bool} {off i np : Nat} (ht : L.drop off = enc P) (hv : Val sl P) (hoi : off ≤ i) (hpl : ∀ j, off ≤ j → j < i → ∃ y, L[j]? = some y ∧ plain y) (hi : L[i]? = some 58) (hnp : np = wilds (L.drop i)) :
    ∃ q x s3, ColonAt L P off i np q x s3 := by
  have hget : ∀ j, (enc P)[j]? = L[off + j]? := fun j => by rw [← ht, List.getElem?_drop]
  rcases first_wild P sl (i - off) 58 hv (fun j hj => by rw [hget]; exact hpl (off + j) (by omega) (by omega)) (by rw [hget, show off + (i - off) = i from by omega]; exact hi) (.inl rfl) with ⟨_, q, x, s3, h1, h2, h3, h4, h5, h6, h7⟩ | ⟨h, _⟩
  · have hE : L.drop off = q ++ (58 :: (x ++ enc s3)) := by rw [ht, h2, enc_append, enc_bs]; rfl
    have hi' : L.drop i = 58 :: (x ++ enc s3) := by
      have : L.drop i = (L.drop off).drop q.length := by rw [List.drop_drop, h1, show off + (i - off) = i from by omega]
      rw [this, hE, List.drop_left]
    have hi1 : L.drop (i + 1) = x ++ enc s3 := by
      rw [← List.drop_drop, hi']; rfl
    have hi2 : L.drop (i + 1 + x.length) = enc s3 := by
      rw [← List.drop_drop, hi1, List.drop_left]
    have hw : wilds (L.drop (i + 1)) = cnt s3 := by
      rw [hi1, wilds_append, wilds_plain x (fun c hc => (h3.2 c hc).1), wilds_enc s3 _ h5]; omega
    have hlen : i + 1 + x.length ≤ L.length := by
      have := congrArg List.length hi1
      simp only [List.length_drop, List.length_append] at this
      have h9 := List.length_pos_iff.2 h3.1
      omega
    refine ⟨q, x, s3, ⟨h2, by omega, h3, h4, h5, h6, h7, hi2, hlen, ?_, ?_, ?_, hw, ?_, ?_⟩⟩
    · intro j hj
      refine ⟨x[j], ?_, (h3.2 _ (List.getElem_mem hj)).1, (h3.2 _ (List.getElem_mem hj)).2⟩
      rw [← List.getElem?_drop, hi1, List.getElem?_append_left hj, List.getElem?_eq_getElem hj]
    · cases s3 with
      | nil =>
        left
        have := congrArg List.length hi2
        simp only [List.length_drop, enc, List.length_nil] at this
        omega
      | cons y s =>
        right
        have h9 : L[i + 1 + x.length]? = (enc (y :: s))[0]? := by rw [← hi2, List.getElem?_drop]; rfl
        rw [h9]
        cases y with
        | b c => have : c = 47 := h4; simp [enc, this]
        | par z => exact absurd h4 (by simp [slashed])
        | all z => simp [enc]
    · rw [hnp, hi', wilds_cons_wild _ (.inl rfl), ← hi1, hw]
    · rw [hE, ← h1, List.take_left]
    · rw [hi', List.take_succ_cons, List.take_left]
  · cases h

/-- What is known at the mark of all that is left. -/
structure StarAt (L : Bytes) (P : List Tok) (off i np : Nat) (q z : Bytes) : Prop where
  p : P = bs q ++ [.all z]
  ql : off + q.length + 1 = i
  nm : name z
  qp : ∀ y ∈ q, plain y
  le : i + 1 + z.length = L.length
  at_ : ∀ j, j < z.length → ∃ y, L[i + 1 + j]? = some y ∧ plain y ∧ y ≠ 47
  np : np = 1
  slash : L[i - 1]? = some 47
  q_ : (L.drop off).take (i - 1 - off) = q
  z_ : L.drop (i - 1) = 47 :: 42 :: z

theorem star_at {L : Bytes} {P : List Tok} {sl : Bool} {off i np : Nat} (ht : L.drop off = enc P) (hv : Val sl P) (hoi : off ≤ i) (hpl : ∀ j, off ≤ j → j < i → ∃ y, L[j]? = some y ∧ plain y) (hi : L[i]? = some 42) (hnp : np = wilds (L.drop i)) :
    ∃ q z, StarAt L P off i np q z := by
  have hget : ∀ j, (enc P)[j]? = L[off + j]? := fun j => by rw [← ht, List.getElem?_drop]
  rcases first_wild P sl (i - off) 42 hv (fun j hj => by rw [hget]; exact hpl (off + j) (by omega) (by omega)) (by rw [hget, show off + (i - off) = i from by omega]; exact hi) (.inr rfl) with ⟨h, _⟩ | ⟨_, q, z, h1, h2, h3, h4, _⟩
  · cases h
  · have hE : L.drop off = q ++ (47 :: 42 :: z) := by rw [ht, h2, enc_append, enc_bs]; simp [enc]
    have him : L.drop (i - 1) = 47 :: 42 :: z := by
      have : L.drop (i - 1) = (L.drop off).drop q.length := by rw [List.drop_drop, show off + q.length = i - 1 from by omega]
      rw [this, hE, List.drop_left]
    have hi' : L.drop i = 42 :: z := by
      have : L.drop i = (L.drop (i - 1)).drop 1 := by rw [List.drop_drop, show i - 1 + 1 = i from by omega]
      rw [this, him]; rfl
    have hi1 : L.drop (i + 1) = z := by rw [← List.drop_drop, hi']; rfl
    refine ⟨q, z, ⟨h2, by omega, h3, h4, ?_, ?_, ?_, ?_, ?_, him⟩⟩
    · have := congrArg List.length hi1
      simp only [List.length_drop] at this
      have h9 := List.length_pos_iff.2 h3.1
      omega
    · intro j hj
      refine ⟨z[j], ?_, (h3.2 _ (List.getElem_mem hj)).1, (h3.2 _ (List.getElem_mem hj)).2⟩
      rw [← List.getElem?_drop, hi1, List.getElem?_eq_getElem hj]
    · rw [hnp, hi', wilds_cons_wild _ (.inr rfl), wilds_plain z (fun c hc => (h3.2 c hc).1)]
    · have : L[i - 1]? = (L.drop (i - 1))[0]? := by rw [List.getElem?_drop]; rfl
      rw [this, him]; rfl
    · rw [hE, show i - 1 - off = q.length from by omega, List.take_left]

end Go.Proofs.Ytcobbbbnmepmfaa
