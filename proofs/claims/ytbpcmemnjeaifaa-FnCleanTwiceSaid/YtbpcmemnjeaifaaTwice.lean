/- The plain law on clean paths: what CleanPath computes is the reference's clean path, and a clean path is clean. -/
import Derived.Test.YtbpcmemnjeaifaaPlain
namespace Go.Proofs.Ytbpcmemnjeaifaa.Cp
open Go.Lib

theorem step_good {E : List (List UInt8)} (h : Good E) {e : List UInt8} (he : ∀ x ∈ e, x ≠ 47) : Good (step E e) := by
  unfold step
  split
  · exact h
  · split
    · exact h.pop
    · exact h.push (by rename_i h1 _; exact fun e0 => h1 (.inl e0)) he

theorem els_good (l : List UInt8) : ∀ e ∈ Pa.els l, ∀ x ∈ e, x ≠ 47 := by
  induction l with
  | nil => intro e he; rw [els_nil] at he; simp at he; subst he; simp
  | cons c t ih =>
    by_cases h : c = 47
    · subst h
      rw [els_slash]
      intro e he
      rcases List.mem_cons.1 he with rfl | he
      · simp
      · exact ih e he
    · obtain ⟨e', r, h1, h2⟩ := els_cons c t h
      rw [h2]
      rw [h1] at ih
      intro e he
      rcases List.mem_cons.1 he with rfl | he
      · intro x hx
        rcases List.mem_cons.1 hx with rfl | hx
        · exact h
        · exact ih e' (by simp) x hx
      · exact ih e (by simp [he])

theorem fold_good : ∀ (P : List (List UInt8)) (E : List (List UInt8)), Good E → (∀ e ∈ P, ∀ x ∈ e, x ≠ 47) → Good (P.foldl step E)
  | [], _, h, _ => h
  | p :: P, E, h, hP => fold_good P (step E p) (step_good h (hP p (by simp))) (fun e he => hP e (by simp [he]))

theorem lastEl_nil_iff (l : List UInt8) : lastEl l = [] ↔ l = [] ∨ l.getLast? = some 47 := by
  induction l with
  | nil => simp [lastEl, els_nil]
  | cons c t ih =>
    by_cases h : c = 47
    · subst h
      rw [lastEl_cons [] _ _ (els_slash t), ih]
      cases t with
      | nil => simp
      | cons a b => simp [List.getLast?_cons_cons]
    · obtain ⟨e', r, h1, h2⟩ := els_cons c t h
      cases r with
      | nil =>
        have e1 : lastEl (c :: t) = c :: e' := by simp [lastEl, h2]
        rw [e1]
        have e2 : lastEl t = e' := by simp [lastEl, h1]
        rw [e2] at ih
        cases t with
        | nil => simp [h]
        | cons a b =>
          rw [List.getLast?_cons_cons]
          constructor
          · intro h3; cases h3
          · rintro (h3 | h3)
            · cases h3
            · have := ih.2 (.inr h3)
              exfalso
              rw [this] at h1
              have h4 := els_good (a :: b)
              have h5 := List.getLast?_eq_some_iff.1 h3
              obtain ⟨ys, h5⟩ := h5
              rw [h5] at h1
              have h6 : ∀ ys : List UInt8, (Pa.els (ys ++ [47])).length ≥ 2 := by
                intro ys
                induction ys with
                | nil => simp [els_slash, els_nil]
                | cons y ys ih2 =>
                  by_cases hy : y = 47
                  · subst hy; rw [List.cons_append, els_slash]; simp; omega
                  · obtain ⟨e'', r'', g1, g2⟩ := els_cons y (ys ++ [47]) hy
                    rw [List.cons_append, g2]; rw [g1] at ih2; simpa using ih2
              have := h6 ys
              rw [h1] at this; simp at this
      | cons a b =>
        have e1 : lastEl (c :: t) = lastEl t := by simp [lastEl, h2, h1, List.getLast?_cons_cons]
        rw [e1, ih]
        cases t with
        | nil => simp [els_nil] at h1
        | cons x y => simp [List.getLast?_cons_cons]

/-- What CleanPath's loop leaves is the clean path. -/
theorem res_clean {l : List UInt8} (h0 : l ≠ []) : res ((Pa.els l).foldl step []) (trail l) = clean l := by
  obtain ⟨F, hF⟩ : ∃ F, F = (Pa.els l).foldl step [] := ⟨_, rfl⟩
  have hG : Good F := by rw [hF]; exact fold_good _ _ (fun e he => by cases he) (els_good l)
  unfold clean res
  rw [← hF]
  by_cases hE : F = []
  · subst hE
    rw [if_neg (by intro h; exact absurd h.2 (by decide)), if_pos (.inl rfl)]
    rfl
  · have hj : joined F = flat F := by simp [joined, hE]
    have hl : 1 < (flat F).length := by
      have := mt (joined_length_one hG).1 hE
      rw [hj] at this; omega
    have hne : flat F ≠ [] := by intro h; rw [h] at hl; simp at hl
    have hT : (trail l = true) ↔ (lastEl l = [] ∨ lastEl l = [46]) := by
      rw [lastEl_nil_iff]
      unfold trail lastDot
      simp only [Bool.or_eq_true, Bool.and_eq_true, decide_eq_true_eq, beq_iff_eq]
      constructor
      · rintro (⟨_, h⟩ | h)
        · exact .inl (.inr h)
        · exact .inr h
      · rintro ((h | h) | h)
        · exact absurd h h0
        · left
          refine ⟨?_, h⟩
          apply Classical.byContradiction
          intro h1
          have h2 : l.length = 1 := by have := List.length_pos_iff.2 h0; omega
          obtain ⟨a, rfl⟩ := List.length_eq_one_iff.1 h2
          simp at h
          subst h
          apply hE
          rw [hF, els_slash, els_nil]
          simp [step]
        · exact .inr h
    rw [hj]
    by_cases hc : lastEl l = [] ∨ lastEl l = [46]
    · rw [if_pos ⟨hT.2 hc, hl⟩, if_pos (.inr hc)]
    · rw [if_neg (by intro h; exact hc (hT.1 h.1)), if_neg (by rintro (h | h); exact hne h; exact hc h)]

/-- The elements of a joined text. -/
theorem els_flat : ∀ (F : List (List UInt8)), Good F → ∀ t, (t = [] ∨ ∃ u, t = 47 :: u) → F ≠ [] → Pa.els (flat F ++ t) = [] :: F ++ (Pa.els t).tail
  | [], _, _, _, h => absurd rfl h
  | [e], hG, t, ht, _ => by
    have he := (hG e (by simp)).2
    have : flat [e] ++ t = 47 :: (e ++ t) := by simp [flat]
    rw [this, els_slash, els_elem e t he ht]; rfl
  | e :: a :: b, hG, t, ht, _ => by
    have he := (hG e (by simp)).2
    have ih := els_flat (a :: b) (fun x hx => hG x (by simp [hx])) t ht (by simp)
    have h1 : flat (e :: a :: b) ++ t = 47 :: (e ++ (flat (a :: b) ++ t)) := by simp [flat]
    have h2 : ∃ u, flat (a :: b) ++ t = 47 :: u := ⟨_, by simp [flat]; rfl⟩
    rw [h1, els_slash, els_elem e _ he (.inr h2), ih]
    rfl

def Plain (F : List (List UInt8)) : Prop := ∀ e ∈ F, e ≠ [46] ∧ e ≠ [46, 46]

theorem step_plain {E : List (List UInt8)} (h : Plain E) (e : List UInt8) : Plain (step E e) := by
  unfold step
  split
  · exact h
  · split
    · exact fun y hy => h y (List.dropLast_subset E hy)
    · intro y hy
      rename_i h1 h2
      rcases List.mem_append.1 hy with hy | hy
      · exact h y hy
      · obtain rfl := List.mem_singleton.1 hy
        exact ⟨fun e0 => h1 (.inr e0), h2⟩

theorem fold_plain : ∀ (P : List (List UInt8)) (E : List (List UInt8)), Plain E → Plain (P.foldl step E)
  | [], _, h => h
  | p :: P, E, h => fold_plain P (step E p) (step_plain h p)

theorem fold_same : ∀ (F E : List (List UInt8)), Good F → Plain F → F.foldl step E = E ++ F
  | [], E, _, _ => by simp
  | e :: F, E, hG, hP => by
    have h1 := (hG e (by simp)).1
    have h2 := hP e (by simp)
    have hs : step E e = E ++ [e] := by simp [step, h1, h2.1, h2.2]
    rw [List.foldl_cons, hs, fold_same F _ (fun x hx => hG x (by simp [hx])) (fun x hx => hP x (by simp [hx]))]
    simp

theorem clean_first (l : List UInt8) : ∃ t, clean l = 47 :: t := by
  unfold clean
  have : ∀ F : List (List UInt8), F = [] ∨ ∃ t, flat F = 47 :: t := by
    intro F
    cases F with
    | nil => exact .inl rfl
    | cons a b => exact .inr ⟨_, by simp [flat]; rfl⟩
  rcases this ((Pa.els l).foldl step []) with h | ⟨t, h⟩
  · rw [h]
    rw [if_pos (.inl rfl)]
    exact ⟨[], rfl⟩
  · rw [h]
    split
    · exact ⟨_, rfl⟩
    · exact ⟨_, rfl⟩

/-- A clean path is clean. -/
theorem clean_clean (l : List UInt8) : clean (clean l) = clean l := by
  obtain ⟨F, hF⟩ : ∃ F, F = (Pa.els l).foldl step [] := ⟨_, rfl⟩
  have hG : Good F := by rw [hF]; exact fold_good _ _ (fun e he => by cases he) (els_good l)
  have hP : Plain F := by rw [hF]; exact fold_plain _ _ (fun e he => by cases he)
  by_cases hE : F = []
  · have h1 : clean l = [47] := by
      unfold clean
      rw [← hF, hE, if_pos (.inl rfl)]; rfl
    rw [h1]; decide
  · have hne : flat F ≠ [] := by rw [Ne, flat_eq_nil]; exact hE
    by_cases hc : lastEl l = [] ∨ lastEl l = [46]
    · have h1 : clean l = flat F ++ [47] := by unfold clean; rw [← hF, if_pos (.inr hc)]
      rw [h1]
      have he : Pa.els (flat F ++ [47]) = [] :: (F ++ [[]]) := by
        rw [els_flat F hG [47] (.inr ⟨[], rfl⟩) hE]; rfl
      have hf : (Pa.els (flat F ++ [47])).foldl step [] = F := by
        rw [he, List.foldl_cons, step_nil, List.foldl_append, fold_same F [] hG hP]
        simp [step]
      have hl : lastEl (flat F ++ [47]) = [] := by
        rw [lastEl_nil_iff]; exact .inr (by simp)
      unfold clean
      rw [hf, if_pos (.inr (.inl hl))]
    · have h1 : clean l = flat F := by
        unfold clean
        rw [← hF, if_neg (by rintro (h | h); exact hne h; exact hc h)]
      rw [h1]
      have he : Pa.els (flat F) = [] :: F := by
        have := els_flat F hG [] (.inl rfl) hE
        rw [List.append_nil] at this
        rw [this]; simp [els_nil]
      have hf : (Pa.els (flat F)).foldl step [] = F := by
        rw [he, List.foldl_cons, step_nil, fold_same F [] hG hP]; rfl
      have hl : ∃ e ∈ F, lastEl (flat F) = e := by
        refine ⟨F.getLast hE, List.getLast_mem hE, ?_⟩
        unfold lastEl
        rw [he]
        cases F with
        | nil => exact absurd rfl hE
        | cons a b => rw [List.getLast?_cons_cons, List.getLast?_eq_some_getLast (by simp)]; rfl
      obtain ⟨e, hm, hl⟩ := hl
      unfold clean
      rw [hf, hl, if_neg (by
        rintro (h | h | h)
        · exact hne h
        · exact (hG e hm).1 h
        · exact (hP e hm).1 h)]

end Go.Proofs.Ytbpcmemnjeaifaa.Cp
