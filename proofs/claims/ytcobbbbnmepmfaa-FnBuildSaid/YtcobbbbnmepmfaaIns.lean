/- One route more at one place of the tree; which routes stand in its way. -/
import Derived.Test.YtcobbbbnmepmfaaRep
namespace Go.Proofs.Ytcobbbbnmepmfaa.Tr
open Go Go.RowKit

def Tag.stat (t : Tag) : Prop := t = .st ∨ t = .wc

/-- What a parent sees of a child stays. -/
structure Kin (t t' : HT) : Prop where
  b : t'.b = t.b
  key : key t' = key t
  stat : t.tag.stat → t'.tag.stat
  same : ¬ t.tag.stat → t'.tag = t.tag

theorem Kin.refl (t : HT) : Kin t t := ⟨rfl, rfl, id, fun _ => rfl⟩
theorem Kin.trans {a b c : HT} (h : Kin a b) (k : Kin b c) : Kin a c := by
  refine ⟨k.b.trans h.b, k.key.trans h.key, fun x => k.stat (h.stat x), fun x => ?_⟩
  have := h.same x
  rw [← this] at x
  exact (k.same x).trans this

/-- The world w' holds in the place of t a tree that has one route more. -/
def Done (w : World) (t : HT) (s : List Tok) (n : Nat) (w' : World) : Prop :=
  ∃ t', Kin t t' ∧ Rep w' t' ∧ Wf t' ∧ (R t').Perm ((s, n) :: R t) ∧ Kept (blocks t) w w' ∧ ∀ x ∈ blocks t', x ∈ blocks t ∨ w.heap.size ≤ x

/-- The same tree but for decorations. -/
structure Like (w : World) (t : HT) (w1 : World) (t1 : HT) : Prop where
  kin : Kin t t1
  rep : Rep w1 t1
  wf : Wf t1
  r : (R t1).Perm (R t)
  kept : Kept (blocks t) w w1
  new : ∀ x ∈ blocks t1, x ∈ blocks t ∨ w.heap.size ≤ x

theorem Done.like {w w1 w' : World} {t t1 : HT} {s : List Tok} {n : Nat} (hl : Like w t w1 t1) (h : Done w1 t1 s n w') : Done w t s n w' := by
  obtain ⟨t', hk, hr, hw, hp, hke, hn⟩ := h
  refine ⟨t', hl.kin.trans hk, hr, hw, hp.trans (List.Perm.cons _ hl.r), hl.kept.trans hke (fun x hx => hl.new x hx), fun x hx => ?_⟩
  rcases hn x hx with h1 | h1
  · exact hl.new x h1
  · exact .inr (Nat.le_trans hl.kept.size h1)

theorem Like.refl {w : World} {t : HT} (hr : Rep w t) (hw : Wf t) : Like w t w t := ⟨Kin.refl t, hr, hw, List.Perm.refl _, Kept.refl _ _, fun _ h => .inl h⟩
theorem Like.trans {w w1 w2 : World} {t t1 t2 : HT} (h : Like w t w1 t1) (k : Like w1 t1 w2 t2) : Like w t w2 t2 := by
  refine ⟨h.kin.trans k.kin, k.rep, k.wf, k.r.trans h.r, h.kept.trans k.kept (fun x hx => h.new x hx), fun x hx => ?_⟩
  rcases k.new x hx with h1 | h1
  · exact h.new x h1
  · exact .inr (Nat.le_trans h.kept.size h1)

/-! ### Routes -/

theorem pre_append (q : List Tok) (a c : List (List Tok × Nat)) : pre q (a ++ c) = pre q a ++ pre q c := by simp [pre]
theorem pre_pre (q q' : List Tok) (a : List (List Tok × Nat)) : pre q (pre q' a) = pre (q ++ q') a := by simp [pre]
theorem pre_nil (a : List (List Tok × Nat)) : pre [] a = a := by simp [pre]
theorem mem_pre {q : List Tok} {l : List (List Tok × Nat)} {r : List Tok × Nat} : r ∈ pre q l ↔ ∃ r' ∈ l, r = (q ++ r'.1, r'.2) := by
  simp only [pre, List.mem_map]
  constructor
  · rintro ⟨a, h1, h2⟩; exact ⟨a, h1, h2.symm⟩
  · rintro ⟨a, h1, h2⟩; exact ⟨a, h1, h2.symm⟩
theorem R_mk (tag : Tag) (b : Nat) (d : Dec) (p : ByteArray) (h : Option Nat) (kids : List HT) : R (.mk tag b d p h kids) = pre (toks tag p.data.toList) (endR h ++ RL kids) := rfl

theorem mem_RL {kids : List HT} {r : List Tok × Nat} : r ∈ RL kids ↔ ∃ k ∈ kids, r ∈ R k := by
  induction kids with
  | nil => simp [RL]
  | cons k l ih => simp [RL, ih]

theorem conf_app (q : List Tok) (a c : List Tok) : conf (q ++ a) (q ++ c) = conf a c := by
  induction q with
  | nil => rfl
  | cons x q ih => rw [List.cons_append, List.cons_append, conf_same, ih]

/-- Is there a route in the way? -/
def Bad (l : List (List Tok × Nat)) (s : List Tok) : Prop := ∃ r ∈ l, conf r.1 s = true

theorem Bad.perm {l l' : List (List Tok × Nat)} {s : List Tok} (h : l.Perm l') : Bad l s ↔ Bad l' s := by
  constructor
  · rintro ⟨r, h1, h2⟩; exact ⟨r, h.mem_iff.1 h1, h2⟩
  · rintro ⟨r, h1, h2⟩; exact ⟨r, h.mem_iff.2 h1, h2⟩

theorem bad_pre (q : List Tok) (l : List (List Tok × Nat)) (s : List Tok) : Bad (pre q l) (q ++ s) ↔ Bad l s := by
  constructor
  · rintro ⟨r, h1, h2⟩
    obtain ⟨r', h3, rfl⟩ := mem_pre.1 h1
    rw [conf_app] at h2
    exact ⟨r', h3, h2⟩
  · rintro ⟨r, h1, h2⟩
    exact ⟨_, mem_pre.2 ⟨r, h1, rfl⟩, by rw [conf_app]; exact h2⟩

theorem bad_append (a c : List (List Tok × Nat)) (s : List Tok) : Bad (a ++ c) s ↔ Bad a s ∨ Bad c s := by
  constructor
  · rintro ⟨r, h1, h2⟩
    rcases List.mem_append.1 h1 with h1 | h1
    · exact .inl ⟨r, h1, h2⟩
    · exact .inr ⟨r, h1, h2⟩
  · rintro (⟨r, h1, h2⟩ | ⟨r, h1, h2⟩)
    · exact ⟨r, List.mem_append.2 (.inl h1), h2⟩
    · exact ⟨r, List.mem_append.2 (.inr h1), h2⟩

theorem bad_here (tag : Tag) (b : Nat) (d : Dec) (p : ByteArray) (h : Option Nat) (kids : List HT) (s : List Tok) :
    Bad (R (.mk tag b d p h kids)) (toks tag p.data.toList ++ s) ↔ Bad (endR h) s ∨ Bad (RL kids) s := by
  rw [R_mk, bad_pre, bad_append]

theorem bad_end_nil (h : Option Nat) : Bad (endR h) [] ↔ h ≠ none := by
  cases h with
  | none => constructor
            · rintro ⟨r, h1, _⟩; cases h1
            · intro h; exact absurd rfl h
  | some n => constructor
              · intro _ e; cases e
              · intro _; exact ⟨([], n), by simp [endR], rfl⟩
theorem bad_end_cons (h : Option Nat) (x : Tok) (s : List Tok) : ¬ Bad (endR h) (x :: s) := by
  rintro ⟨r, h1, h2⟩
  cases h with
  | none => cases h1
  | some n =>
    simp [endR] at h1
    subst h1
    cases h2

theorem mem_kids_lt {tag : Tag} {b : Nat} {d : Dec} {p : ByteArray} {h : Option Nat} {kids : List HT} {k : HT} (hk : k ∈ kids) : SizeOf.sizeOf k < SizeOf.sizeOf (HT.mk tag b d p h kids) := by
  have := List.sizeOf_lt_of_mem hk
  simp only [HT.mk.sizeOf_spec]
  omega

/-- A tree in order holds a route. -/
theorem R_some (t : HT) (hw : Wf t) : ∃ r, r ∈ R t := by
  match t, hw with
  | .mk tag b d p h kids, hw =>
    have key : (h ≠ none) ∨ ∃ k, k ∈ kids := by
      have hs := hw.top
      cases h with
      | some n => exact .inl (by simp)
      | none =>
        right
        cases tag with
        | st => obtain ⟨_, _, _, _, _, h1, _⟩ := hs; exact List.exists_mem_of_ne_nil _ (h1 rfl)
        | wc => obtain ⟨_, _, _, _, k, hk, _⟩ := hs; exact ⟨k, by simp [hk]⟩
        | pm => obtain ⟨_, _, _, h1, _⟩ := hs; exact List.exists_mem_of_ne_nil _ (h1 rfl)
        | ch => obtain ⟨_, _, _, k, hk, _⟩ := hs; exact ⟨k, by simp [hk]⟩
        | cl => obtain ⟨_, _, h1, _⟩ := hs; exact absurd rfl h1
    rcases key with h1 | ⟨k, hk⟩
    · cases h with
      | none => exact absurd rfl h1
      | some n => exact ⟨_, mem_pre.2 ⟨([], n), by simp [endR], rfl⟩⟩
    · obtain ⟨r, hr⟩ := R_some k (hw.kid (t := .mk tag b d p h kids) hk)
      exact ⟨_, mem_pre.2 ⟨r, List.mem_append.2 (.inr (mem_RL.2 ⟨k, hk, hr⟩)), rfl⟩⟩
termination_by SizeOf.sizeOf t
decreasing_by exact mem_kids_lt hk

theorem R_cl {b : Nat} {d : Dec} {p : ByteArray} {h : Option Nat} {kids : List HT} (hw : Wf (.mk .cl b d p h kids)) : ∃ z n, name z ∧ p.data.toList = 47 :: 42 :: z ∧ h = some n ∧ R (.mk .cl b d p h kids) = [([.all z], n)] := by
  obtain ⟨⟨z, hz, hp⟩, hk, hh, _, _⟩ := hw.top
  cases h with
  | none => exact absurd rfl hh
  | some n => exact ⟨z, n, hz, hp, rfl, by rw [R_mk, hp, hk]; rfl⟩

theorem R_ch {b : Nat} {d : Dec} {p : ByteArray} {h : Option Nat} {kids : List HT} (hw : Wf (.mk .ch b d p h kids)) : ∃ z n, name z ∧ R (.mk .ch b d p h kids) = [([.all z], n)] := by
  obtain ⟨hp, hh, _, k, hk, ht⟩ := hw.top
  have hwk : Wf k := hw.kid (t := .mk .ch b d p h kids) (by show k ∈ kids; simp [hk])
  cases k with
  | mk tag' b' d' p' h' kids' =>
    have : tag' = .cl := ht
    subst this
    obtain ⟨z, n, hz, _, _, hR⟩ := R_cl hwk
    refine ⟨z, n, hz, ?_⟩
    rw [R_mk, hk, hh]
    simp [toks, pre_nil, endR, RL, hR]

/-- What a static node's routes begin with. -/
theorem R_head (t : HT) (hw : Wf t) (ht : t.tag.stat ∨ t.tag = .ch) : ∀ r ∈ R t, (∃ u, r.1 = .b (key t) :: u) ∨ key t = 47 ∧ ∃ z, r.1 = [.all z] := by
  cases t with
  | mk tag b d p h kids =>
    have hch : ∀ p' : ByteArray, p'.data.toList = [] → key (.mk tag b d p' h kids) = 47 := fun p' e => by simp [key, HT.p, e]
    have hst : ∀ (q : UInt8) (p1 : Bytes), p.data.toList = q :: p1 → tag.stat → ∀ r ∈ R (.mk tag b d p h kids), ∃ u, r.1 = .b (key (.mk tag b d p h kids)) :: u := by
      intro q p1 hp hs r hr
      have hq : key (.mk tag b d p h kids) = q := by simp [key, HT.p, hp]
      rw [R_mk] at hr
      obtain ⟨r', _, rfl⟩ := mem_pre.1 hr
      rw [hq, hp]
      rcases hs with rfl | rfl
      · exact ⟨bs p1 ++ r'.1, rfl⟩
      · exact ⟨bs p1 ++ r'.1, rfl⟩
    intro r hr
    rcases ht with hs | hc
    · cases hp : p.data.toList with
      | cons q p1 => exact .inl (hst q p1 hp hs r hr)
      | nil =>
        rcases hs with h1 | h1
        · have h1' : tag = .st := h1
          subst h1'
          obtain ⟨_, _, _, _, _, _, h2⟩ := hw.top
          obtain ⟨hh, k, hk, htk⟩ := h2 hp
          have hwk : Wf k := hw.kid (t := .mk .st b d p h kids) (by show k ∈ kids; simp [hk])
          cases k with
          | mk tag' b' d' p' h' kids' =>
            have : tag' = .ch := htk
            subst this
            obtain ⟨z, n, _, hR⟩ := R_ch hwk
            right
            refine ⟨hch p hp, z, ?_⟩
            rw [R_mk, hk, hh, hp] at hr
            simp only [toks, bs, List.map_nil, pre_nil, endR, List.nil_append, RL, hR, List.append_nil, List.mem_singleton] at hr
            rw [hr]
        · have h1' : tag = .wc := h1
          subst h1'
          obtain ⟨_, _, h2, _⟩ := hw.top
          rw [hp] at h2; cases h2
    · have hc' : tag = .ch := hc
      subst hc'
      obtain ⟨z, n, _, hR⟩ := R_ch hw
      rw [hR] at hr
      obtain ⟨hp, _⟩ := hw.top
      exact .inr ⟨hch p hp, z, by rw [List.mem_singleton.1 hr]⟩

theorem R_pm {b : Nat} {d : Dec} {p : ByteArray} {h : Option Nat} {kids : List HT} : ∀ r ∈ R (.mk .pm b d p h kids), ∃ u, r.1 = .par p.data.toList.tail :: u := by
  intro r hr
  rw [R_mk] at hr
  obtain ⟨r', _, rfl⟩ := mem_pre.1 hr
  exact ⟨r'.1, rfl⟩

/-- The byte by which the next child is looked for. -/
def sKey : List Tok → Option UInt8
  | .b c :: _ => some c
  | .all _ :: _ => some 47
  | _ => none

theorem bad_other (k : HT) (hw : Wf k) (ht : k.tag.stat ∨ k.tag = .ch) {s : List Tok} {c : UInt8} (hs : sKey s = some c) (hne : key k ≠ c) : ¬ Bad (R k) s := by
  rintro ⟨r, hr, hc⟩
  rcases R_head k hw ht r hr with ⟨u, h1⟩ | ⟨h0, z, h1⟩
  · rw [h1] at hc
    match s, hs with
    | .b c' :: s, hs =>
      obtain rfl : c' = c := by simpa [sKey] using hs
      rw [conf_bb hne] at hc; cases hc
    | .all z :: s, hs =>
      obtain rfl : 47 = c := by simpa [sKey] using hs
      rw [conf_ball] at hc
      exact hne (by simpa using hc)
  · rw [h1] at hc
    match s, hs with
    | .b c' :: s, hs =>
      obtain rfl : c' = c := by simpa [sKey] using hs
      rw [conf_allb] at hc
      exact hne (by rw [h0]; exact (by simpa using hc : c' = 47).symm)
    | .all z' :: s, hs =>
      obtain rfl : 47 = c := by simpa [sKey] using hs
      exact hne h0

theorem bad_kid_nil (k : HT) (hw : Wf k) (ht : k.tag.stat ∨ k.tag = .ch) : ¬ Bad (R k) [] := by
  rintro ⟨r, hr, hc⟩
  rcases R_head k hw ht r hr with ⟨u, h1⟩ | ⟨h0, z, h1⟩ <;> rw [h1] at hc <;> cases hc

theorem bad_pm_nil {b : Nat} {d : Dec} {p : ByteArray} {h : Option Nat} {kids : List HT} : ¬ Bad (R (.mk .pm b d p h kids)) [] := by
  rintro ⟨r, hr, hc⟩
  obtain ⟨u, h1⟩ := R_pm r hr
  rw [h1] at hc; cases hc

theorem bad_kid_par (k : HT) (hw : Wf k) (ht : k.tag.stat ∨ k.tag = .ch) (x : Bytes) (s : List Tok) : Bad (R k) (.par x :: s) := by
  obtain ⟨r, hr⟩ := R_some k hw
  refine ⟨r, hr, ?_⟩
  rcases R_head k hw ht r hr with ⟨u, h1⟩ | ⟨h0, z, h1⟩ <;> rw [h1]
  · exact conf_bpar _ _ _ _
  · exact conf_allpar _ _ _ _

theorem bad_pm_key {b : Nat} {d : Dec} {p : ByteArray} {h : Option Nat} {kids : List HT} (hw : Wf (.mk .pm b d p h kids)) {s : List Tok} {c : UInt8} (hs : sKey s = some c) : Bad (R (.mk .pm b d p h kids)) s := by
  obtain ⟨r, hr⟩ := R_some _ hw
  refine ⟨r, hr, ?_⟩
  obtain ⟨u, h1⟩ := R_pm r hr
  rw [h1]
  match s, hs with
  | .b c' :: s, _ => exact conf_parb _ _ _ _
  | .all z :: s, _ => exact conf_parall _ _ _ _

theorem bad_pm_par {b : Nat} {d : Dec} {p : ByteArray} {h : Option Nat} {kids : List HT} (hw : Wf (.mk .pm b d p h kids)) {x : Bytes} {s : List Tok} (hne : p.data.toList.tail ≠ x) : Bad (R (.mk .pm b d p h kids)) (.par x :: s) := by
  obtain ⟨r, hr⟩ := R_some _ hw
  refine ⟨r, hr, ?_⟩
  obtain ⟨u, h1⟩ := R_pm r hr
  rw [h1]
  exact conf_parpar hne _ _

/-- All children but one have other bytes. -/
theorem bad_one {A B : List HT} {k : HT} {s : List Tok} {c : UInt8} (hw : ∀ x ∈ A ++ k :: B, Wf x ∧ (x.tag.stat ∨ x.tag = .ch)) (hs : sKey s = some c) (hk : key k = c) (hnd : ((A ++ k :: B).map key).Nodup) : Bad (RL (A ++ k :: B)) s ↔ Bad (R k) s := by
  rw [RL_append, RL_cons, bad_append, bad_append]
  rw [List.map_append, List.map_cons, List.nodup_append] at hnd
  obtain ⟨_, n2, n3⟩ := hnd
  have hother : ∀ l : List HT, (∀ x ∈ l, Wf x ∧ (x.tag.stat ∨ x.tag = .ch)) → (∀ x ∈ l, key x ≠ c) → ¬ Bad (RL l) s := by
    intro l hl hne
    rintro ⟨r, hr, hc⟩
    obtain ⟨x, hx, hr⟩ := mem_RL.1 hr
    exact bad_other x (hl x hx).1 (hl x hx).2 hs (hne x hx) ⟨r, hr, hc⟩
  have hA := hother A (fun x hx => hw x (by simp [hx])) (fun x hx e => n3 (key x) (List.mem_map_of_mem hx) (key k) (by simp) (e.trans hk.symm))
  have hB := hother B (fun x hx => hw x (by simp [hx])) (fun x hx e => by
    rw [List.nodup_cons] at n2
    exact n2.1 (by rw [hk, ← e]; exact List.mem_map_of_mem hx))
  constructor
  · rintro (h | h | h)
    · exact absurd h hA
    · exact h
    · exact absurd h hB
  · intro h; exact .inr (.inl h)

theorem bad_none {l : List HT} {s : List Tok} {c : UInt8} (hw : ∀ x ∈ l, Wf x ∧ (x.tag.stat ∨ x.tag = .ch)) (hs : sKey s = some c) (hne : ∀ x ∈ l, key x ≠ c) : ¬ Bad (RL l) s := by
  rintro ⟨r, hr, hc⟩
  obtain ⟨x, hx, hr⟩ := mem_RL.1 hr
  exact bad_other x (hw x hx).1 (hw x hx).2 hs (hne x hx) ⟨r, hr, hc⟩

theorem bad_kids_nil {l : List HT} (hw : ∀ x ∈ l, Wf x ∧ (x.tag.stat ∨ x.tag = .ch)) : ¬ Bad (RL l) [] := by
  rintro ⟨r, hr, hc⟩
  obtain ⟨x, hx, hr⟩ := mem_RL.1 hr
  exact bad_kid_nil x (hw x hx).1 (hw x hx).2 ⟨r, hr, hc⟩

/-- The slash of all that is left meets a slash of the text. -/
theorem bad_half {tag : Tag} {b : Nat} {d : Dec} {p : ByteArray} {h : Option Nat} {kids : List HT} (hw : Wf (.mk tag b d p h kids)) (hs : tag.stat) {q q' : Bytes} (hp : p.data.toList = q ++ 47 :: q') (z : Bytes) :
    Bad (R (.mk tag b d p h kids)) (bs q ++ [.all z]) := by
  obtain ⟨r, hr⟩ := R_some _ hw
  refine ⟨r, hr, ?_⟩
  rw [R_mk] at hr
  obtain ⟨r', _, rfl⟩ := mem_pre.1 hr
  have ht : toks tag p.data.toList = bs q ++ (.b 47 :: bs q') := by
    rw [hp]
    rcases hs with rfl | rfl <;> simp [toks, bs]
  rw [ht, List.append_assoc, conf_bs, List.cons_append, conf_ball]
  rfl

/-! ### A child has one route more -/

theorem perm_mid {α : Type} {A B L L' : List α} {x : α} (h : L'.Perm (x :: L)) : (A ++ (L' ++ B)).Perm (x :: (A ++ (L ++ B))) := by
  have h1 : (A ++ (L' ++ B)).Perm (A ++ (x :: (L ++ B))) := List.Perm.append_left A (List.Perm.append_right B h)
  exact h1.trans List.perm_middle

theorem R_swap {tag : Tag} {b : Nat} {d : Dec} {p : ByteArray} {h : Option Nat} {A B : List HT} {k k' : HT} {s : List Tok} {n : Nat} (hp : (R k').Perm ((s, n) :: R k)) :
    (R (.mk tag b d p h (A ++ k' :: B))).Perm ((toks tag p.data.toList ++ s, n) :: R (.mk tag b d p h (A ++ k :: B))) := by
  rw [R_mk, R_mk, RL_append, RL_append, RL_cons, RL_cons]
  have h1 : (endR h ++ (RL A ++ (R k' ++ RL B))).Perm ((s, n) :: (endR h ++ (RL A ++ (R k ++ RL B)))) := by
    rw [← List.append_assoc, ← List.append_assoc (endR h) (RL A)]
    exact perm_mid hp
  exact h1.map (fun r : List Tok × Nat => (toks tag p.data.toList ++ r.1, r.2))

theorem Shape.swap {tag : Tag} {b : Nat} {d : Dec} {p : ByteArray} {h : Option Nat} {A B : List HT} {k k' : HT} {s : List Tok} {n : Nat} (hs : Shape (.mk tag b d p h (A ++ k :: B))) (hk : Kin k k') (hp : (R k').Perm ((s, n) :: R k))
    (hc : tag = .pm → cnt (toks tag p.data.toList ++ s) ≤ d.mp) : Shape (.mk tag b d p h (A ++ k' :: B)) := by
  have hkeys : (A ++ k' :: B).map key = (A ++ k :: B).map key := by simp [hk.key]
  have hone : ∀ {P : HT → Prop}, (∃ x, A ++ k :: B = [x] ∧ P x) → A = [] ∧ B = [] ∧ P k := by
    rintro P ⟨x, hx, hP⟩
    cases A with
    | nil => simp at hx; obtain ⟨rfl, rfl⟩ := hx; exact ⟨rfl, rfl, hP⟩
    | cons a A => simp at hx
  cases tag with
  | st =>
    obtain ⟨h0, h1, h2, h3, h4, h5, h6⟩ := hs
    refine ⟨h0, h1, ?_, by rw [hkeys]; exact h3, by rw [hkeys]; exact h4, fun _ => by simp, fun e => ?_⟩
    · intro x hx
      rcases List.mem_append.1 hx with hx | hx
      · exact h2 x (by simp [hx])
      · rcases List.mem_cons.1 hx with rfl | hx
        · have := h2 k (by simp)
          by_cases hst : k.tag.stat
          · rcases hk.stat hst with e | e
            · exact .inl e
            · exact .inr (.inl e)
          · rw [hk.same hst]; exact this
        · exact h2 x (by simp [hx])
    · obtain ⟨hh, hx⟩ := h6 e
      obtain ⟨rfl, rfl, ht⟩ := hone hx
      exact ⟨hh, k', rfl, by rw [hk.same (by rintro (e | e) <;> rw [ht] at e <;> cases e)]; exact ht⟩
  | wc =>
    obtain ⟨h0, h1, h2, h3, hx⟩ := hs
    obtain ⟨rfl, rfl, ht⟩ := hone hx
    exact ⟨h0, h1, h2, h3, k', rfl, by rw [hk.same (by rintro (e | e) <;> rw [ht] at e <;> cases e)]; exact ht⟩
  | pm =>
    obtain ⟨h1, h2, h3, h4, h5⟩ := hs
    refine ⟨h1, ?_, h3, fun _ => by simp, .inr ?_⟩
    · intro r hr
      rcases List.mem_cons.1 ((R_swap (tag := .pm) (b := b) (d := d) (p := p) (h := h) (A := A) (B := B) hp).mem_iff.1 hr) with rfl | hr
      · exact hc rfl
      · exact h2 r hr
    · rcases h5 with ⟨h5, _⟩ | h5
      · simp at h5
      · obtain ⟨rfl, rfl, ht, hkey, hix⟩ := hone (P := fun k => (k.tag = .st ∨ k.tag = .wc) ∧ key k = 47 ∧ (d.ix.data.toList = [] ∨ d.ix.data.toList = [47])) h5
        exact ⟨k', rfl, hk.stat ht, by rw [hk.key]; exact hkey, hix⟩
  | ch =>
    obtain ⟨h1, h2, h3, hx⟩ := hs
    obtain ⟨rfl, rfl, ht⟩ := hone hx
    exact ⟨h1, h2, h3, k', rfl, by rw [hk.same (by rintro (e | e) <;> rw [ht] at e <;> cases e)]; exact ht⟩
  | cl =>
    obtain ⟨_, h1, _⟩ := hs
    simp at h1

theorem Wf.of_top {tag : Tag} {b : Nat} {d : Dec} {p : ByteArray} {h : Option Nat} {kids : List HT} (hs : Shape (.mk tag b d p h kids)) (hk : ∀ k ∈ kids, Wf k) : Wf (.mk tag b d p h kids) := by
  intro n hn
  unfold nodes at hn
  rcases List.mem_cons.1 hn with rfl | hn
  · exact hs
  · have : ∀ l : List HT, (∀ k ∈ l, Wf k) → n ∈ nodesL l → Shape n := by
      intro l
      induction l with
      | nil => intro _ h; cases h
      | cons a l ih =>
        intro hl hm
        rcases List.mem_append.1 hm with hm | hm
        · exact hl a (by simp) n hm
        · exact ih (fun k hk => hl k (by simp [hk])) hm
    exact this kids hk hn

/-- ONE ROUTE MORE IN A CHILD IS ONE ROUTE MORE IN THE NODE. -/
theorem Done.up {w w' : World} {tag : Tag} {b : Nat} {d : Dec} {p : ByteArray} {h : Option Nat} {A B : List HT} {k : HT} {s : List Tok} {n : Nat} (hr : Rep w (.mk tag b d p h (A ++ k :: B))) (hw : Wf (.mk tag b d p h (A ++ k :: B)))
    (hc : tag = .pm → cnt (toks tag p.data.toList ++ s) ≤ d.mp) (hd : Done w k s n w') : Done w (.mk tag b d p h (A ++ k :: B)) (toks tag p.data.toList ++ s) n w' := by
  obtain ⟨k', hk, hrk, hwk, hp, hke, hn⟩ := hd
  have hkb : ∀ x ∈ blocks k, x ∈ blocks (.mk tag b d p h (A ++ k :: B)) := fun x hx => mem_blocks_kid (t := .mk tag b d p h (A ++ k :: B)) (by show k ∈ A ++ k :: B; simp) hx
  refine ⟨.mk tag b d p h (A ++ k' :: B), ⟨rfl, rfl, id, fun _ => rfl⟩, hr.swap hk.b hrk hke hn, Wf.of_top (hw.top.swap hk hp hc) ?_, R_swap hp, hke.mono (fun x hx => .inl (hkb x hx)), ?_⟩
  · intro x hx
    rcases List.mem_append.1 hx with hx | hx
    · exact hw.kid (t := .mk tag b d p h (A ++ k :: B)) (by show x ∈ A ++ k :: B; simp [hx])
    · rcases List.mem_cons.1 hx with rfl | hx
      · exact hwk
      · exact hw.kid (t := .mk tag b d p h (A ++ k :: B)) (by show x ∈ A ++ k :: B; simp [hx])
  · intro x hx
    rw [blocks_mk, blocksL_append, blocksL_cons] at hx ⊢
    have ho : own (.mk tag b d p h (A ++ k' :: B)) = own (.mk tag b d p h (A ++ k :: B)) := rfl
    rw [ho] at hx
    simp only [List.mem_append] at hx ⊢
    rcases hx with hx | hx | hx | hx
    · exact .inl (.inl hx)
    · exact .inl (.inr (.inl hx))
    · rcases hn x hx with h1 | h1
      · exact .inl (.inr (.inr (.inl h1)))
      · exact .inr h1
    · exact .inl (.inr (.inr (.inr hx)))

end Go.Proofs.Ytcobbbbnmepmfaa.Tr
