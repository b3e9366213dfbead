/- addRoute's ends, and its ways down. -/
import Derived.Test.YtcobbbbnmepmfaaAdd
import Derived.Test.YtcobbbbnmepmfaaInsPanic
namespace Go.Proofs.Ytcobbbbnmepmfaa
open Go Go.RowKit Go.Lib Tr

/-- What addRoute comes to. -/
def AddPost (w0 : World) (T0 : HT) (s0 : List Tok) (n : Nat) (e : Ending) (w' : World) : Prop :=
  (¬ Bad (R T0) s0 ∧ e = .returned (.tuple #[]) ∧ Done w0 T0 s0 n w') ∨ (Bad (R T0) s0 ∧ Panics e ∧ Kept (blocks T0) w0 w')

section
variable {w0 w W : World} {T0 t : HT} {tag : Tag} {b : Nat} {d : Dec} {p : ByteArray} {h : Option Nat} {kids : List HT} {s0 s s' : List Tok} {n np : Nat} {full pth : ByteArray}

theorem AddAt.ok (ha : AddAt w0 T0 s0 n full pth t s np w) (hb : ¬ Bad (R t) s) (hd : Done w t s n W) : AddPost w0 T0 s0 n (.returned (.tuple #[])) W := .inl ⟨fun h => hb (ha.bad.2 h), rfl, ha.done W hd⟩
theorem AddAt.no (ha : AddAt w0 T0 s0 n full pth t s np w) (hb : Bad (R t) s) (hk : Kept (blocks t) w W) {e : Ending} (he : Panics e) : AddPost w0 T0 s0 n e W := .inr ⟨ha.bad.1 hb, he, ha.kept.trans hk ha.sub⟩

theorem AddAt.notcl (ha : AddAt w0 T0 s0 n full pth (.mk tag b d p h kids) s np w) : tag ≠ .cl := by
  intro e
  subst e
  rcases ha.head with ⟨h1, _⟩ | ⟨h1, _⟩ | ⟨h1, _⟩
  · rcases h1 with h1 | h1 <;> cases h1
  · cases h1
  · cases h1

theorem st_kids (hw : Wf (.mk .st b d p h kids)) : ∀ k ∈ kids, Wf k ∧ (k.tag.stat ∨ k.tag = .ch) := by
  intro k hk
  refine ⟨hw.kid (t := .mk .st b d p h kids) hk, ?_⟩
  obtain ⟨_, _, h3, _⟩ := hw.top
  rcases h3 k hk with h1 | h1 | h1
  · exact .inl (.inl h1)
  · exact .inl (.inr h1)
  · exact .inr h1

/-- What a node's children have no route for, when the path ends. -/
theorem kids_nil (hw : Wf (.mk tag b d p h kids)) (hcl : tag ≠ .cl) (hch : tag ≠ .ch) : ¬ Bad (RL kids) [] := by
  cases tag with
  | st => exact bad_kids_nil (st_kids hw)
  | wc =>
    obtain ⟨_, _, _, _, k, hk, ht⟩ := hw.top
    subst hk
    rintro ⟨r, hr, hc⟩
    cases k with
    | mk tg b' d' p' h' k' =>
      have : tg = .pm := ht
      subst this
      exact bad_pm_nil ⟨r, by simpa [RL] using hr, hc⟩
  | pm =>
    obtain ⟨_, _, _, _, h5⟩ := hw.top
    refine bad_kids_nil fun k hk => ⟨hw.kid (t := .mk .pm b d p h kids) hk, ?_⟩
    rcases h5 with ⟨h5, _⟩ | ⟨k', h5, h6, _⟩
    · rw [h5] at hk; cases hk
    · rw [h5] at hk
      rw [List.mem_singleton.1 hk]; exact .inl h6
  | ch => exact absurd rfl hch
  | cl => exact absurd rfl hcl

theorem AddAt.notch (ha : AddAt w0 T0 s0 n full pth (.mk tag b d p h kids) s np w) (hs : s = toks tag p.data.toList) : tag ≠ .ch := by
  rintro rfl
  exact ha.ne hs

/-- The path ends at a node without a handle. -/
theorem AddAt.handle (ha : AddAt w0 T0 s0 n full pth (.mk tag b d p none kids) s np w) (hs : s = toks tag p.data.toList) : AddPost w0 T0 s0 n (.returned (.tuple #[])) (w.setCell ⟨b, 7, none⟩ (hV (some n))) := by
  have hch := ha.notch hs
  have hcl := ha.notcl
  have hR : (R (.mk tag b d p (some n) kids)).Perm ((s, n) :: R (.mk tag b d p none kids)) := by
    rw [R_mk, R_mk, hs]
    simp [endR, pre]
  refine ha.ok ?_ ⟨.mk tag b d p (some n) kids, ⟨rfl, rfl, id, fun _ => rfl⟩, ha.rep.setH (some n), Wf.of_top ?_ (fun k hk => ha.wf.kid (t := .mk tag b d p none kids) hk), hR, (Kept.refl _ w).setCell (.inl (mem_blocks_self (.mk tag b d p none kids))) _, fun x hx => .inl (by rwa [blocks_mk] at hx ⊢)⟩
  · intro hb
    have hb' : Bad (R (.mk tag b d p none kids)) (toks tag p.data.toList ++ []) := by rwa [List.append_nil, ← hs]
    rcases (bad_here _ _ _ _ _ _ _).1 hb' with h1 | h1
    · exact (bad_end_nil none).1 h1 rfl
    · exact kids_nil ha.wf hcl hch h1
  · have hsh := ha.wf.top
    cases tag with
    | st =>
      obtain ⟨h1, h2, h3, h4, h5, _, _⟩ := hsh
      refine ⟨h1, h2, h3, h4, h5, (fun e => by cases e), fun e => ?_⟩
      exfalso
      apply ha.ne
      rw [hs, e]; rfl
    | wc => exact hsh
    | pm =>
      obtain ⟨h1, h2, h3, _, h5⟩ := hsh
      refine ⟨h1, ?_, h3, (fun e => by cases e), h5⟩
      intro r hr
      rcases List.mem_cons.1 (hR.mem_iff.1 hr) with rfl | hr
      · rcases ha.head with ⟨h6, _⟩ | ⟨_, _, h6⟩ | ⟨h6, _⟩
        · rcases h6 with h6 | h6 <;> cases h6
        · exact h6
        · cases h6
      · exact h2 r hr
    | ch => exact absurd rfl hch
    | cl => exact absurd rfl hcl

/-- .. with a handle. -/
theorem AddAt.handled {m : Nat} (_ha : AddAt w0 T0 s0 n full pth (.mk tag b d p (some m) kids) s np w) (hs : s = toks tag p.data.toList) : Bad (R (.mk tag b d p (some m) kids)) s := by
  have := (bad_here tag b d p (some m) kids []).2 (.inl ((bad_end_nil (some m)).2 (by simp)))
  rwa [List.append_nil, ← hs] at this

theorem Val.drop_toks {sl : Bool} (hv : Val sl (toks tag p.data.toList ++ s')) (hcl : tag ≠ .cl) : ∃ sl', Val sl' s' := by
  cases tag with
  | st =>
    by_cases hp : p.data.toList = []
    · rw [hp] at hv; exact ⟨sl, hv⟩
    · exact ⟨_, Val.drop_bs hv hp⟩
  | wc =>
    by_cases hp : p.data.toList = []
    · rw [hp] at hv; exact ⟨sl, hv⟩
    · exact ⟨_, Val.drop_bs hv hp⟩
  | pm => exact ⟨_, hv.2.2.2⟩
  | ch => exact ⟨sl, hv⟩
  | cl => exact absurd rfl hcl

theorem cnt_toks (hcl : tag ≠ .cl) (q : Bytes) (s' : List Tok) : cnt (toks tag q ++ s') = cnt s' + if tag = .pm then 1 else 0 := by
  cases tag with
  | st => simp [toks, cnt_bs]
  | wc => simp [toks, cnt_bs]
  | pm => simp [toks, cnt]
  | ch => simp [toks]
  | cl => exact absurd rfl hcl

/-- The way down to a child. -/
theorem AddAt.down {A B : List HT} {k1 : HT} {d1 : Dec} {pth' : ByteArray} {np' : Nat} (ha : AddAt w0 T0 s0 n full pth (.mk tag b d p h kids) s np w) (hl : Like w (.mk tag b d p h kids) W (.mk tag b d1 p h (A ++ k1 :: B))) (hs : s = toks tag p.data.toList ++ s') (hne : s' ≠ [])
    (hbad : Bad (R (.mk tag b d p h kids)) s ↔ Bad (R k1) s') (hd1 : tag = .pm → d.mp ≤ d1.mp) (hhead : (k1.tag.stat ∧ sKey s' = some (key k1)) ∨ (k1.tag = .pm ∧ (∃ s'', s' = .par k1.p.data.toList.tail :: s'') ∧ cnt s' ≤ k1.d.mp) ∨ (k1.tag = .ch ∧ sKey s' = some 47))
    (hnp1 : k1.tag = .pm → np' + 1 = cnt s') (hnp2 : k1.tag ≠ .pm → np' = cnt s') (ht : pth'.data.toList = enc s') (hsuf : ∃ A, full.data.toList = A ++ pth'.data.toList) : AddAt w0 T0 s0 n full pth' k1 s' np' W := by
  have hcl := ha.notcl
  have hpm : tag = .pm → p = p ∧ d.mp ≤ d1.mp := fun e => ⟨rfl, hd1 e⟩
  have ha1 := ha.like hl hpm
  have hk1 : k1 ∈ A ++ k1 :: B := by simp
  obtain ⟨sl, hv⟩ := ha.val
  rw [hs] at hv
  refine ⟨ha1.rep.kid (t := .mk tag b d1 p h (A ++ k1 :: B)) hk1, ha1.wf.kid (t := .mk tag b d1 p h (A ++ k1 :: B)) hk1, ?_, hbad.symm.trans ha.bad, ha1.kept, fun x hx => ha1.sub x (mem_blocks_kid (t := .mk tag b d1 p h (A ++ k1 :: B)) hk1 hx), ht, Val.drop_toks hv hcl, hne, hhead, hnp1, hnp2, ?_, hsuf, ?_⟩
  · intro w' hd
    apply ha1.done w'
    have := Done.up ha1.rep ha1.wf (s := s') (n := n) (w' := w') (fun e => by
      rw [← hs]
      rcases ha.head with ⟨h1, _⟩ | ⟨_, _, h1⟩ | ⟨h1, _⟩
      · have e' : tag = .pm := e
        rcases h1 with h1 | h1 <;> rw [e'] at h1 <;> cases h1
      · exact Nat.le_trans h1 (hd1 e)
      · have e' : tag = .pm := e
        rw [e'] at h1; cases h1) hd
    rwa [← hs] at this
  · have := ha.le
    rw [hs, cnt_toks hcl] at this
    omega
  · intro r hr
    have h1 := ha1.len (toks tag p.data.toList ++ r.1, r.2) (by
      rw [R_mk]
      exact mem_pre.2 ⟨r, by
        rw [RL_append, RL_cons]
        simp [hr], rfl⟩)
    rw [enc_append, List.length_append] at h1
    omega

/-- A parameter's node: is it the one that is asked for? -/
theorem wc_bad {k : HT} (hw : Wf (.mk .wc b d p h [k])) (hx : ∀ s'', s' ≠ .par k.p.data.toList.tail :: s'') (hne : s' ≠ []) : Bad (R (.mk .wc b d p h [k])) (bs p.data.toList ++ s') := by
  obtain ⟨_, _, _, _, k', hk', ht⟩ := hw.top
  have hkk : k = k' := by simpa using hk'
  subst hkk
  have hwk : Wf k := hw.kid (t := .mk .wc b d p h [k]) (by show k ∈ [k]; simp)
  refine (bad_here .wc b d p h [k] s').2 (.inr ?_)
  cases k with
  | mk tg b' d' p' h' k' =>
    have : tg = .pm := ht
    subst this
    have hmem : Bad (R (.mk .pm b' d' p' h' k')) s' := by
      match s', hne with
      | .par y :: s2, _ =>
        exact bad_pm_par hwk (fun e => hx s2 (by rw [← e]; rfl))
      | .b c :: s2, _ => exact bad_pm_key hwk (c := c) rfl
      | .all z :: s2, _ => exact bad_pm_key hwk (c := 47) rfl
    obtain ⟨r, hr, hc⟩ := hmem
    exact ⟨r, by simpa [RL] using hr, hc⟩

theorem wc_down {k : HT} (hs : ∃ x s'', s' = .par x :: s'') : Bad (R (.mk .wc b d p h [k])) (toks .wc p.data.toList ++ s') ↔ Bad (R k) s' := by
  obtain ⟨x, s'', rfl⟩ := hs
  rw [bad_here]
  constructor
  · rintro (h1 | ⟨r, hr, hc⟩)
    · exact absurd h1 (bad_end_cons _ _ _)
    · exact ⟨r, by simpa [RL] using hr, hc⟩
  · rintro ⟨r, hr, hc⟩
    exact .inr ⟨r, by simpa [RL] using hr, hc⟩

theorem pm_down {k : HT} (hne : s' ≠ []) : Bad (R (.mk .pm b d p h [k])) (toks .pm p.data.toList ++ s') ↔ Bad (R k) s' := by
  rw [bad_here]
  constructor
  · rintro (h1 | ⟨r, hr, hc⟩)
    · cases s' with
      | nil => exact absurd rfl hne
      | cons x s2 => exact absurd h1 (bad_end_cons _ _ _)
    · exact ⟨r, by simpa [RL] using hr, hc⟩
  · rintro ⟨r, hr, hc⟩
    exact .inr ⟨r, by simpa [RL] using hr, hc⟩

theorem st_down {A B : List HT} {k : HT} {c : UInt8} (hw : Wf (.mk .st b d p h (A ++ k :: B))) (hs : sKey s' = some c) (hk : key k = c) : Bad (R (.mk .st b d p h (A ++ k :: B))) (toks .st p.data.toList ++ s') ↔ Bad (R k) s' := by
  rw [bad_here]
  obtain ⟨_, _, _, _, h5, _⟩ := hw.top
  rw [bad_one (st_kids hw) hs hk h5]
  constructor
  · rintro (h1 | h1)
    · cases s' with
      | nil => cases hs
      | cons x s2 => exact absurd h1 (bad_end_cons _ _ _)
    · exact h1
  · intro h1; exact .inr h1

theorem ch_bad (hw : Wf (.mk .ch b d p h kids)) (hs : sKey s = some 47) {sl : Bool} (hv : Val sl s) : Bad (R (.mk .ch b d p h kids)) s := by
  obtain ⟨z, m, _, hR⟩ := R_ch hw
  rw [hR]
  refine ⟨_, List.mem_singleton.2 rfl, ?_⟩
  match s, hs with
  | .b c :: s, hs =>
    have : c = 47 := by simpa [sKey] using hs
    subst this
    rw [conf_allb]; rfl
  | .all z' :: s, _ =>
    obtain ⟨_, _, rfl⟩ := hv
    by_cases e : z = z'
    · subst e; rw [conf_same]; rfl
    · exact conf_allall e _ _

theorem st_par_bad (hw : Wf (.mk .st b d p h kids)) (hk : kids ≠ []) (x : Bytes) (s2 : List Tok) : Bad (R (.mk .st b d p h kids)) (toks .st p.data.toList ++ .par x :: s2) := by
  rw [bad_here]
  right
  obtain ⟨k, hkm⟩ := List.exists_mem_of_ne_nil _ hk
  obtain ⟨r, hr, hc⟩ := bad_kid_par k (st_kids hw k hkm).1 (st_kids hw k hkm).2 x s2
  exact ⟨r, mem_RL.2 ⟨k, hkm, hr⟩, hc⟩

theorem leaf_ok (hne : s' ≠ []) : ¬ Bad (R (.mk tag b d p h [])) (toks tag p.data.toList ++ s') := by
  rw [bad_here]
  rintro (h1 | ⟨r, hr, _⟩)
  · cases s' with
    | nil => exact absurd rfl hne
    | cons x s2 => exact absurd h1 (bad_end_cons _ _ _)
  · cases hr

theorem st_none (hw : Wf (.mk .st b d p h kids)) {c : UInt8} (hs : sKey s' = some c) (hk : ∀ k ∈ kids, key k ≠ c) : ¬ Bad (R (.mk .st b d p h kids)) (toks .st p.data.toList ++ s') := by
  rw [bad_here]
  rintro (h1 | h1)
  · cases s' with
    | nil => cases hs
    | cons x s2 => exact absurd h1 (bad_end_cons _ _ _)
  · exact bad_none (st_kids hw) hs hk h1

/-- A parameter is laid below a static leaf. -/
theorem AddAt.fillpar (ha : AddAt w0 T0 s0 n full pth (.mk .st b d p h []) s np w) {x : Bytes} {s2 : List Tok} (hs : s = toks .st p.data.toList ++ .par x :: s2) : Fill w w.heap.size b .st p.data.toList h (.par x :: s2) n (fun w' => AddPost w0 T0 s0 n (.returned (.tuple #[])) w') := by
  intro w' t' hb hr hw hR htag _ hkey hk hn
  have hpne : p.data.toList ≠ [] := by
    intro e
    obtain ⟨_, _, _, _, _, _, h7⟩ := ha.wf.top
    obtain ⟨_, k, hk, _⟩ := h7 e
    cases hk
  refine ha.ok (by rw [hs]; exact leaf_ok (by simp)) ⟨t', ⟨hb, ?_, fun _ => htag rfl, fun e => absurd (.inl rfl) e⟩, hr, hw, ?_, hk.kept.mono (fun x hx => by rw [List.mem_singleton.1 hx]; exact .inl (mem_blocks_self (.mk .st b d p h []))), fun x hx => ?_⟩
  · rw [hkey, head_eq hpne]; rfl
  · refine hR.trans ?_
    rw [R_mk, hs]
    simp only [toks, RL, List.append_nil, pre_append]
    exact List.perm_append_comm
  · rcases hn x hx with e | e
    · rw [e]; exact .inl (mem_blocks_self (.mk .st b d p h []))
    · exact .inr e

/-- A new child: the tree as it stands when its subtree is to be laid. -/
theorem AddAt.fillnew {A B : List HT} {rb : Nat} {rd d2 : Dec} (ha : AddAt w0 T0 s0 n full pth (.mk tag b d p h kids) s np w) (hs : s = toks tag p.data.toList ++ s') {c : UInt8} (hc : sKey s' = some c) (htag : tag = .st ∨ tag = .pm) (hkids : kids = A ++ B) (hpmk : tag = .pm → kids = [] ∧ c = 47)
    (hnk : ∀ k ∈ kids, key k ≠ c) (hr2 : Rep W (.mk tag b d2 p h (A ++ .mk .st rb rd ⟨#[]⟩ none [] :: B))) (hra : rd.arr = none) (hkW : Kept (blocks (.mk tag b d p h kids)) w W) (hsub : ∀ x ∈ blocks (.mk tag b d2 p h (A ++ .mk .st rb rd ⟨#[]⟩ none [] :: B)), x ∈ blocks (.mk tag b d p h kids) ∨ w.heap.size ≤ x)
    (hnt : d2.nt = d.nt) (hmp : d2.mp = d.mp) (hix : ∃ i1 i3, d.ix.data.toList = i1 ++ i3 ∧ d2.ix.data.toList = i1 ++ c :: i3 ∧ i1.length = A.length) :
    Fill W W.heap.size rb .st [] none s' n (fun w' => AddPost w0 T0 s0 n (.returned (.tuple #[])) w') := by
  intro w' t' hb hr hw hR htag' _ hkey hk hn
  have hst : t'.tag.stat := htag' rfl
  have hkeyc : key t' = c := by
    rw [hkey]
    match s', hc with
    | .b c' :: s2, hc => simpa [enc, sKey] using hc
    | .all z :: s2, hc => simpa [enc, sKey] using hc
  have hne : s' ≠ [] := by intro e; rw [e] at hc; cases hc
  have hbl : blocks (.mk .st rb rd ⟨#[]⟩ none []) = [rb] := by simp [blocks_mk, own, hra, blocksL, nodesL]
  have hRt : (R t').Perm [(s', n)] := by simpa [pre, bs, endR] using hR
  have hrT : Rep w' (.mk tag b d2 p h (A ++ t' :: B)) := hr2.swap hb hr (by rw [hbl]; exact hk.kept) (fun x hx => by rw [hbl]; rcases hn x hx with e | e; exact .inl (by simp [e]); exact .inr e)
  have hRT : (R (.mk tag b d2 p h (A ++ t' :: B))).Perm ((s, n) :: R (.mk tag b d p h kids)) := by
    rw [R_mk, R_mk, RL_append, RL_cons, hkids, RL_append, hs]
    have h1 : (endR h ++ (RL A ++ (R t' ++ RL B))).Perm ((s', n) :: (endR h ++ (RL A ++ RL B))) := by
      have h2 := perm_mid (A := endR h ++ RL A) (B := RL B) (L := []) (L' := R t') (x := (s', n)) hRt
      simpa [List.append_assoc] using h2
    exact h1.map (fun r : List Tok × Nat => (toks tag p.data.toList ++ r.1, r.2))
  have hbad : ¬ Bad (R (.mk tag b d p h kids)) s := by
    rw [hs]
    rcases htag with rfl | rfl
    · exact st_none ha.wf hc hnk
    · rw [(hpmk rfl).1]; exact leaf_ok hne
  have hwT : Wf (.mk tag b d2 p h (A ++ t' :: B)) := by
    refine Wf.of_top ?_ ?_
    · have hsh := ha.wf.top
      obtain ⟨i1, i3, e1, e2, e3⟩ := hix
      rcases htag with rfl | rfl
      · obtain ⟨h1, h2, h3, h4, h5, h6, h7⟩ := hsh
        rw [hkids, List.map_append] at h4
        rw [e1] at h4
        have h8 := List.append_inj h4 (by rw [e3, List.length_map])
        refine ⟨by rw [hnt]; exact h1, h2, ?_, ?_, ?_, fun _ => by simp, ?_⟩
        · intro x hx
          rcases List.mem_append.1 hx with hx | hx
          · exact h3 x (by rw [hkids]; simp [hx])
          · rcases List.mem_cons.1 hx with rfl | hx
            · rcases hst with e | e
              · exact .inl e
              · exact .inr (.inl e)
            · exact h3 x (by rw [hkids]; simp [hx])
        · rw [e2, h8.1, h8.2, List.map_append, List.map_cons, hkeyc]
        · rw [hkids, List.map_append] at h5
          rw [List.map_append, List.map_cons, hkeyc]
          obtain ⟨m1, m2, m3⟩ := List.nodup_append.1 h5
          refine List.nodup_append.2 ⟨m1, List.nodup_cons.2 ⟨?_, m2⟩, ?_⟩
          · intro hm
            obtain ⟨k, hk1, hk2⟩ := List.mem_map.1 hm
            exact hnk k (by rw [hkids]; simp [hk1]) hk2
          · intro x hx y hy e
            rcases List.mem_cons.1 hy with rfl | hy
            · obtain ⟨k, hk1, hk2⟩ := List.mem_map.1 hx
              exact hnk k (by rw [hkids]; simp [hk1]) (by rw [hk2]; exact e)
            · exact m3 x hx y hy e
        · intro e
          obtain ⟨_, k, hk1, hk2⟩ := h7 e
          have hk3 := st_kids ha.wf k (by rw [hk1]; simp)
          -- a node without a path stands ahead of all that is left: its one child takes every slash
          exfalso
          have hkc : key k ≠ c := hnk k (by rw [hk1]; simp)
          rcases ha.head with ⟨_, h9⟩ | ⟨h9, _⟩ | ⟨h9, _⟩
          · rw [hs, e] at h9
            have h10 : sKey s' = some (key (.mk .st b d p h kids)) := h9
            have h11 : key (.mk .st b d p h kids) = 47 := by simp [key, HT.p, e]
            rw [h10, h11] at hc
            have hkk : key k = 47 := by
              cases k with
              | mk tg b' d' p' h' k' =>
                have : tg = .ch := hk2
                subst this
                obtain ⟨h12, _⟩ := hk3.1.top
                simp [key, HT.p, h12]
            exact hkc (hkk.trans (Option.some.inj hc))
          · cases h9
          · cases h9
      · obtain ⟨h1, h2, h3, h4, h5⟩ := hsh
        obtain ⟨hk0, rfl⟩ := hpmk rfl
        have hAB : A = [] ∧ B = [] := by
          rw [hk0] at hkids
          exact List.append_eq_nil_iff.1 hkids.symm
        obtain ⟨rfl, rfl⟩ := hAB
        refine ⟨h1, ?_, by rw [hmp]; exact h3, fun _ => by simp, .inr ⟨t', rfl, hst, hkeyc, .inr ?_⟩⟩
        · intro r hr
          rw [hmp]
          rcases List.mem_cons.1 (hRT.mem_iff.1 hr) with rfl | hr
          · rcases ha.head with ⟨h6, _⟩ | ⟨_, _, h6⟩ | ⟨h6, _⟩
            · rcases h6 with h6 | h6 <;> cases h6
            · exact h6
            · cases h6
          · exact h2 r hr
        · rcases h5 with ⟨_, h6⟩ | ⟨k, h6, _⟩
          · rw [h6] at e1
            obtain ⟨rfl, rfl⟩ := List.append_eq_nil_iff.1 e1.symm
            rw [e2]; rfl
          · rw [hk0] at h6; cases h6
    · intro x hx
      rcases List.mem_append.1 hx with hx | hx
      · exact ha.wf.kid (t := .mk tag b d p h kids) (by show x ∈ kids; rw [hkids]; simp [hx])
      · rcases List.mem_cons.1 hx with rfl | hx
        · exact hw
        · exact ha.wf.kid (t := .mk tag b d p h kids) (by show x ∈ kids; rw [hkids]; simp [hx])
  refine ha.ok hbad ⟨.mk tag b d2 p h (A ++ t' :: B), ⟨rfl, rfl, id, fun _ => rfl⟩, hrT, hwT, hRT, hkW.trans (S' := [rb]) hk.kept ?_, ?_⟩
  · intro x hx
    rw [List.mem_singleton.1 hx]
    refine hsub rb ?_
    exact mem_blocks_kid (t := .mk tag b d2 p h (A ++ .mk .st rb rd ⟨#[]⟩ none [] :: B)) (k := .mk .st rb rd ⟨#[]⟩ none []) (by show _ ∈ A ++ _ :: B; simp) (mem_blocks_self (.mk .st rb rd ⟨#[]⟩ none []))
  · intro x hx
    rw [blocks_mk, blocksL_append, blocksL_cons] at hx
    have ho : own (.mk tag b d2 p h (A ++ t' :: B)) = own (.mk tag b d2 p h (A ++ .mk .st rb rd ⟨#[]⟩ none [] :: B)) := rfl
    have hall : ∀ y, (y ∈ own (.mk tag b d2 p h (A ++ .mk .st rb rd ⟨#[]⟩ none [] :: B)) ∨ y ∈ blocksL A ∨ y = rb ∨ y ∈ blocksL B) → y ∈ blocks (.mk tag b d p h kids) ∨ w.heap.size ≤ y := by
      intro y hy
      apply hsub
      rw [blocks_mk, blocksL_append, blocksL_cons, hbl]
      simp only [List.mem_append, List.mem_singleton]
      rcases hy with h | h | h | h
      · exact .inl h
      · exact .inr (.inl h)
      · exact .inr (.inr (.inl h))
      · exact .inr (.inr (.inr h))
    rw [ho] at hx
    simp only [List.mem_append] at hx
    rcases hx with h1 | h1 | h1 | h1
    · exact hall x (.inl h1)
    · exact hall x (.inr (.inl h1))
    · rcases hn x h1 with e | e
      · exact hall x (.inr (.inr (.inl e)))
      · exact .inr (Nat.le_trans hkW.size e)
    · exact hall x (.inr (.inr (.inr h1)))

end
end Go.Proofs.Ytcobbbbnmepmfaa
