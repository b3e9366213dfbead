/- A route's tokens out of its segments; which routes can't stand together, by their segments. No program in sight. -/
import Derived.Test.YtcobbbbnmepmfaaFits
import Derived.Test.YtcobbbbnmepmfaaIns
namespace Go.Proofs.Ytcobbbbnmepmfaa
open Tr

/-- The tokens of a segment. -/
def tokSeg (x : Int × ByteArray) : List Tok :=
  if x.1 = 0 then .b 47 :: bs x.2.data.toList else if x.1 = 1 then [.b 47, .par x.2.data.toList] else [.all x.2.data.toList]

def tokR (l : List (Int × ByteArray)) : List Tok := l.flatMap tokSeg

theorem tokR_cons (x : Int × ByteArray) (l : List (Int × ByteArray)) : tokR (x :: l) = tokSeg x ++ tokR l := rfl

/-- A route's segments, in order. -/
def SegsOk : List (Int × ByteArray) → Prop
  | [] => True
  | x :: l => segOk (l.isEmpty) x.1 x.2.data.toList ∧ SegsOk l

theorem segsOk_of : ∀ (l : List (Int × ByteArray)), (∀ (i : Nat) k t, l[i]? = some (k, t) → segOk (decide (i + 1 = l.length)) k t.data.toList) → SegsOk l
  | [], _ => trivial
  | x :: l, h => by
    refine ⟨?_, segsOk_of l fun i k t hi => ?_⟩
    · have := h 0 x.1 x.2 rfl
      have e : decide (0 + 1 = (x :: l).length) = l.isEmpty := by cases l <;> simp
      rwa [e] at this
    · have := h (i + 1) k t (by simpa using hi)
      have e : decide (i + 1 + 1 = (x :: l).length) = decide (i + 1 = l.length) := by simp
      rwa [e] at this

theorem RouteOk.segs {l : List (Int × ByteArray)} (h : RouteOk l) : SegsOk l := segsOk_of l h.2.2

theorem okc_plain {c : UInt8} (h : okc c = true) : plain c ∧ c ≠ 47 := by
  refine ⟨⟨?_, ?_⟩, ?_⟩ <;> (rintro rfl; revert h; decide)

theorem txt_name {t : List UInt8} (h : txt t = true) (hn : t ≠ []) : name t := by
  refine ⟨hn, fun c hc => ?_⟩
  unfold txt at h
  rw [Bool.and_eq_true, List.all_eq_true] at h
  exact okc_plain (h.1 c hc)

theorem val_text : ∀ (t : List UInt8) (sl : Bool) (s : List Tok), (∀ c ∈ t, okc c = true) → (t = [] → Val sl s) → Val false s → Val sl (bs t ++ s)
  | [], _, _, _, h, _ => h rfl
  | c :: t, sl, s, ht, _, h => by
    obtain ⟨h1, h2⟩ := okc_plain (ht c (by simp))
    have hc : (c == 47) = false := by simpa using h2
    refine ⟨h1, fun _ => h2, ?_⟩
    show Val (c == 47) (bs t ++ s)
    rw [hc]
    exact val_text t false s (fun c hc => ht c (by simp [hc])) (fun _ => h) h

theorem slashed_tokR : ∀ (l : List (Int × ByteArray)), SegsOk l → slashed (tokR l)
  | [], _ => trivial
  | x :: l, h => by
    rw [tokR_cons]
    unfold tokSeg
    split
    · rfl
    · split
      · rfl
      · trivial

theorem val_tokR : ∀ (l : List (Int × ByteArray)), SegsOk l → Val false (tokR l)
  | [], _ => trivial
  | x :: l, h => by
    obtain ⟨⟨h1, h2, h3, h4, h5⟩, hl⟩ := h
    have ih := val_tokR l hl
    have hall : ∀ c ∈ x.2.data.toList, okc c = true := by
      unfold txt at h3
      rw [Bool.and_eq_true, List.all_eq_true] at h3
      exact h3.1
    have hp47 : plain 47 := by constructor <;> decide
    have hlast : l.isEmpty = true → l = [] := fun e => by simpa using e
    rw [tokR_cons]
    unfold tokSeg
    split
    · refine ⟨hp47, fun e => (by cases e), ?_⟩
      show Val (47 == 47) (bs x.2.data.toList ++ tokR l)
      refine val_text _ _ _ hall (fun e => ?_) ih
      rw [hlast (h4 e).2]; trivial
    · rename_i hk0
      have hne : x.2.data.toList ≠ [] := fun e => hk0 (h4 e).1
      split
      · refine ⟨hp47, fun e => (by cases e), ?_⟩
        exact ⟨rfl, txt_name h3 hne, slashed_tokR l hl, ih⟩
      · rename_i hk1
        have hk2 : x.1 = 2 := by omega
        refine ⟨rfl, txt_name h3 hne, ?_⟩
        rw [hlast (h5 hk2)]; rfl

theorem cnt_append (a b : List Tok) : cnt (a ++ b) = cnt a + cnt b := by
  induction a with
  | nil => simp [cnt]
  | cons x a ih =>
    cases x <;> simp only [List.cons_append, cnt] <;> omega

theorem cnt_tokR : ∀ (l : List (Int × ByteArray)), cnt (tokR l) ≤ l.length
  | [] => Nat.le_refl _
  | x :: l => by
    have ih := cnt_tokR l
    have h1 : cnt (tokSeg x) ≤ 1 := by
      unfold tokSeg
      split
      · have := cnt_bs x.2.data.toList []
        rw [List.append_nil] at this
        simp only [cnt] at this ⊢
        omega
      · split
        · simp [cnt]
        · simp [cnt]
    rw [tokR_cons, cnt_append, List.length_cons]
    omega

theorem sKey_tokR {l : List (Int × ByteArray)} (hl : l ≠ []) : sKey (tokR l) = some 47 := by
  cases l with
  | nil => exact absurd rfl hl
  | cons x l =>
    rw [tokR_cons]
    unfold tokSeg
    split
    · rfl
    · split
      · rfl
      · rfl

/-! ### Conflicts -/

/-- Two routes can't stand together, by their segments. -/
def confL : List (Int × ByteArray) → List (Int × ByteArray) → Bool
  | [], [] => true
  | [], _ :: _ => false
  | _ :: _, [] => false
  | x :: a, y :: c =>
    if x = y then confL a c else
    if x.1 ≤ y.1 then (if y.1 = 0 then false else if x.1 = 0 ∧ x.2.data.toList = [] then decide (y.1 = 2) else true)
    else (if x.1 = 0 then false else if y.1 = 0 ∧ y.2.data.toList = [] then decide (x.1 = 2) else true)

theorem conf_text : ∀ (t u : List UInt8) (a c : List Tok), (∀ x ∈ t, x ≠ 47) → (∀ x ∈ u, x ≠ 47) → t ≠ u → slashed a → slashed c → conf (bs t ++ a) (bs u ++ c) = false
  | [], [], _, _, _, _, h, _, _ => absurd rfl h
  | [], y :: u, a, c, _, hu, _, ha, _ => by
    have hy := hu y (by simp)
    match a, ha with
    | [], _ => rfl
    | .b z :: a, h => exact conf_bb (fun e => hy (by rw [← e]; exact h)) _ _
    | .all z :: a, _ =>
      show conf (.all z :: a) (.b y :: _) = false
      rw [conf_allb]; simpa using hy
  | x :: t, [], a, c, ht, _, _, _, hc => by
    have hx := ht x (by simp)
    match c, hc with
    | [], _ => rfl
    | .b z :: c, h => exact conf_bb (fun e => hx (by rw [e]; exact h)) _ _
    | .all z :: c, _ =>
      show conf (.b x :: _) (.all z :: c) = false
      rw [conf_ball]; simpa using hx
  | x :: t, y :: u, a, c, ht, hu, hne, ha, hc => by
    by_cases e : x = y
    · subst e
      show conf (.b x :: (bs t ++ a)) (.b x :: (bs u ++ c)) = false
      rw [conf_same]
      exact conf_text t u a c (fun z hz => ht z (by simp [hz])) (fun z hz => hu z (by simp [hz])) (fun e => hne (by rw [e])) ha hc
    · exact conf_bb e _ _

theorem txt_no47 {t : List UInt8} (h : txt t = true) : ∀ x ∈ t, x ≠ 47 := by
  unfold txt at h
  rw [Bool.and_eq_true, List.all_eq_true] at h
  exact fun x hx => (okc_plain (h.1 x hx)).2

theorem seg_ext {x y : Int × ByteArray} (h1 : x.1 = y.1) (h2 : x.2.data.toList = y.2.data.toList) : x = y :=
  Prod.ext h1 (ByteArray.ext (Array.ext' h2))

/-- The case where the first kind is not the greater one. -/
theorem conf_seg {x y : Int × ByteArray} {a c : List (Int × ByteArray)} (hx : SegsOk (x :: a)) (hy : SegsOk (y :: c)) (hne : x ≠ y) (hle : x.1 ≤ y.1) :
    conf (tokR (x :: a)) (tokR (y :: c)) = (if y.1 = 0 then false else if x.1 = 0 ∧ x.2.data.toList = [] then decide (y.1 = 2) else true) := by
  obtain ⟨⟨x1, x2, x3, x4, x5⟩, xa⟩ := hx
  obtain ⟨⟨y1, y2, y3, y4, y5⟩, yc⟩ := hy
  have ha := slashed_tokR a xa
  have hc := slashed_tokR c yc
  have hxl : x.2.data.toList = [] → a = [] := fun e => by simpa using (x4 e).2
  rw [tokR_cons, tokR_cons]
  have hk : (x.1 = 0 ∧ y.1 = 0) ∨ (x.1 = 0 ∧ y.1 = 1) ∨ (x.1 = 0 ∧ y.1 = 2) ∨ (x.1 = 1 ∧ y.1 = 1) ∨ (x.1 = 1 ∧ y.1 = 2) ∨ (x.1 = 2 ∧ y.1 = 2) := by omega
  rcases hk with ⟨e1, e2⟩ | ⟨e1, e2⟩ | ⟨e1, e2⟩ | ⟨e1, e2⟩ | ⟨e1, e2⟩ | ⟨e1, e2⟩
  · have t1 : tokSeg x = .b 47 :: bs x.2.data.toList := by simp [tokSeg, e1]
    have t2 : tokSeg y = .b 47 :: bs y.2.data.toList := by simp [tokSeg, e2]
    rw [t1, t2, if_pos e2, List.cons_append, List.cons_append, conf_same]
    exact conf_text _ _ _ _ (txt_no47 x3) (txt_no47 y3) (fun e => hne (seg_ext (by rw [e1, e2]) e)) ha hc
  · have t1 : tokSeg x = .b 47 :: bs x.2.data.toList := by simp [tokSeg, e1]
    have t2 : tokSeg y = [.b 47, .par y.2.data.toList] := by simp [tokSeg, e2]
    rw [t1, t2, if_neg (by omega), List.cons_append, List.cons_append, conf_same]
    cases hxt : x.2.data.toList with
    | nil =>
      rw [hxl hxt, if_pos ⟨e1, rfl⟩, e2]; rfl
    | cons u r =>
      rw [if_neg (by simp)]
      exact conf_bpar _ _ _ _
  · have t1 : tokSeg x = .b 47 :: bs x.2.data.toList := by simp [tokSeg, e1]
    have t2 : tokSeg y = [.all y.2.data.toList] := by simp [tokSeg, e2]
    rw [t1, t2, if_neg (by omega), List.cons_append, List.cons_append, conf_ball]
    split
    · rw [e2]; rfl
    · rfl
  · have t1 : tokSeg x = [.b 47, .par x.2.data.toList] := by simp [tokSeg, e1]
    have t2 : tokSeg y = [.b 47, .par y.2.data.toList] := by simp [tokSeg, e2]
    rw [t1, t2, if_neg (by omega), if_neg (by omega)]
    show conf (.b 47 :: .par _ :: _) (.b 47 :: .par _ :: _) = true
    rw [conf_same, conf_parpar (fun e => hne (seg_ext (by rw [e1, e2]) e))]
  · have t1 : tokSeg x = [.b 47, .par x.2.data.toList] := by simp [tokSeg, e1]
    have t2 : tokSeg y = [.all y.2.data.toList] := by simp [tokSeg, e2]
    rw [t1, t2, if_neg (by omega), if_neg (by omega)]
    show conf (.b 47 :: .par _ :: _) (.all _ :: _) = true
    rw [conf_ball]; rfl
  · have t1 : tokSeg x = [.all x.2.data.toList] := by simp [tokSeg, e1]
    have t2 : tokSeg y = [.all y.2.data.toList] := by simp [tokSeg, e2]
    rw [t1, t2, if_neg (by omega), if_neg (by omega)]
    exact conf_allall (fun e => hne (seg_ext (by rw [e1, e2]) e)) _ _

theorem conf_tokR : ∀ (a c : List (Int × ByteArray)), SegsOk a → SegsOk c → conf (tokR a) (tokR c) = confL a c
  | [], [], _, _ => rfl
  | [], y :: c, _, _ => by
    have : tokR (y :: c) ≠ [] := by intro e; have := sKey_tokR (l := y :: c) (by simp); rw [e] at this; cases this
    match tokR (y :: c), this with
    | [], h => exact absurd rfl h
    | z :: r, _ => rfl
  | x :: a, [], _, _ => by
    have : tokR (x :: a) ≠ [] := by intro e; have := sKey_tokR (l := x :: a) (by simp); rw [e] at this; cases this
    match tokR (x :: a), this with
    | [], h => exact absurd rfl h
    | z :: r, _ => rfl
  | x :: a, y :: c, hx, hy => by
    unfold confL
    by_cases e : x = y
    · subst e
      rw [if_pos rfl, tokR_cons, tokR_cons, conf_app]
      exact conf_tokR a c hx.2 hy.2
    · rw [if_neg e]
      by_cases hle : x.1 ≤ y.1
      · rw [if_pos hle]
        exact conf_seg hx hy e hle
      · rw [if_neg hle, conf_comm]
        exact conf_seg hy hx (fun e' => e e'.symm) (by omega)

end Go.Proofs.Ytcobbbbnmepmfaa
