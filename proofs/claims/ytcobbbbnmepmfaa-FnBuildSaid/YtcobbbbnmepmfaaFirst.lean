/- addRoute on an empty tree; what a tree is between two calls. -/
import Derived.Test.YtcobbbbnmepmfaaAddRoute
namespace Go.Proofs.Ytcobbbbnmepmfaa
open Go Go.RowKit Go.Lib Tr

/-- A tree between two calls: it holds the routes l. -/
structure TreeAt (w : World) (t : HT) (l : List (List Tok × Nat)) : Prop where
  rep : Rep w t
  wf : Wf t
  stat : t.tag.stat
  key : key t = 47
  r : (R t).Perm l

/-- A route as it is registered. -/
structure RouteIn (full : ByteArray) (s : List Tok) : Prop where
  text : full.data.toList = enc s
  val : Val false s
  key : sKey s = some 47
  le : cnt s ≤ 20
  size : full.size ≤ 2147483647

theorem TreeAt.some {w : World} {t : HT} {l : List (List Tok × Nat)} (h : TreeAt w t l) : 0 < t.p.size ∨ t.kids ≠ [] := by
  have hw := h.wf.top
  have hs := h.stat
  cases t with
  | mk tag b d p hh kids =>
    have hp : p.data.toList ≠ [] → 0 < p.size := by
      intro h1
      have : p.data.toList.length = p.size := rfl
      have h2 := List.length_pos_iff.2 h1
      omega
    rcases hs with rfl | rfl
    · obtain ⟨_, _, _, _, _, _, h7⟩ := hw
      by_cases h0 : p.data.toList = []
      · obtain ⟨_, k, hk, _⟩ := h7 h0
        right
        show kids ≠ []
        rw [hk]; simp
      · exact .inl (hp h0)
    · obtain ⟨_, _, h3, _⟩ := hw
      left
      exact hp (by intro e; rw [e] at h3; cases h3)

theorem TreeAt.start {w : World} {t : HT} {l : List (List Tok × Nat)} {full : ByteArray} {s : List Tok} (h : TreeAt w t l) (hs : RouteIn full s) (n : Nat) (hl : ∀ r ∈ l, (enc r.1).length ≤ 2147483647) : AddAt w t s n full full t s (cnt s) w := by
  have hne : s ≠ [] := by intro e; have := hs.key; rw [e] at this; cases this
  refine ⟨h.rep, h.wf, fun _ hd => hd, Iff.rfl, Kept.refl _ _, fun _ hx => .inl hx, hs.text, ⟨_, hs.val⟩, hne, .inl ⟨h.stat, by rw [h.key]; exact hs.key⟩, ?_, fun _ => rfl, hs.le, ⟨[], rfl⟩, fun r hr => hl r (h.r.mem_iff.1 hr)⟩
  intro e
  rcases h.stat with h1 | h1 <;> rw [e] at h1 <;> cases h1

/-- What a call of addRoute leaves. -/
def RoutePost2 (w : World) (rb : Nat) (S : List Nat) (l : List (List Tok × Nat)) (s : List Tok) (n : Nat) (e : Ending) (w' : World) : Prop :=
  (¬ Bad l s ∧ e = .returned (.tuple #[]) ∧ (∃ t', TreeAt w' t' ((s, n) :: l) ∧ t'.b = rb ∧ ∀ x ∈ blocks t', x ∈ S ∨ w.heap.size ≤ x) ∧ Kept S w w') ∨ (Bad l s ∧ Panics e ∧ Kept S w w')

theorem addRoute_next (w : World) (t : HT) (l : List (List Tok × Nat)) (s : List Tok) (n : Nat) (full : ByteArray) (h : TreeAt w t l) (hs : RouteIn full s) (hl : ∀ r ∈ l, (enc r.1).length ≤ 2147483647) :
    Calls Try.prog 37 #[.pointer (some ⟨t.b, 0, none⟩), .string full, .iface 3 (.int .i64 (n : Int))] w (RoutePost2 w t.b (blocks t) l s n) := by
  refine (addRoute_any w t s n full hs.size (h.start hs n hl) h.some).mono ?_
  rintro e w' (⟨h1, h2, t', hk, hr, hw, hp, hkept, hb⟩ | ⟨h1, h2, h3⟩)
  · refine .inl ⟨fun hb => h1 ((Bad.perm h.r).2 hb), h2, ⟨t', ⟨hr, hw, hk.stat h.stat, by rw [hk.key]; exact h.key, hp.trans (List.Perm.cons _ h.r)⟩, hk.b, hb⟩, hkept⟩
  · exact .inr ⟨(Bad.perm h.r).1 h1, h2, h3⟩

/-- The empty tree. -/
def EmptyAt (w : World) (rb : Nat) : Prop := ∃ ty, w.heap[rb]? = some (.cells (vals .st ⟨0, 0, 0, ⟨#[]⟩, none⟩ ⟨#[]⟩ none 0) ty (0, 0))

theorem EmptyAt.rep {w : World} {rb : Nat} (h : EmptyAt w rb) : Rep w (.mk .st rb ⟨0, 0, 0, ⟨#[]⟩, none⟩ ⟨#[]⟩ none []) := by
  refine ⟨?_, ?_⟩
  · intro m hm
    have : m = .mk .st rb ⟨0, 0, 0, ⟨#[]⟩, none⟩ ⟨#[]⟩ none [] := by simpa [nodes, nodesL] using hm
    subst this
    exact ⟨h, rfl⟩
  · rw [blocks_leaf rfl]; simp

/-- The root's own type. -/
theorem TreeAt.root {w : World} {t : HT} {l : List (List Tok × Nat)} (h : TreeAt w t l) : ∃ t', TreeAt (w.setCell ⟨t.b, 2, none⟩ (.int .u8 1)) t' l ∧ t'.b = t.b ∧ blocks t' = blocks t := by
  obtain ⟨hr, hw, hs, hk, hp⟩ := h
  cases t with
  | mk tag b d p hh kids =>
    obtain ⟨ty, hrow⟩ := hr.row
    refine ⟨.mk tag b { d with nt := 1 } p hh kids, ⟨?_, Wf.of_top ?_ (fun k hk => hw.kid (t := .mk tag b d p hh kids) hk), hs, hk, hp⟩, rfl, by simp [blocks_mk, own]⟩
    · show Rep (w.setCell ⟨b, 2, none⟩ (.int .u8 1)) _
      refine hr.setRow rfl ⟨ty, ?_⟩ (fun x hx => Below.heap_setCell _ _ _ _ hx)
      rw [row_set hrow]
      rcases hs with rfl | rfl <;> rfl
    · have := hw.top
      rcases hs with rfl | rfl
      · obtain ⟨_, h2⟩ := this
        exact ⟨by show (1 : Nat) < 2; omega, h2⟩
      · obtain ⟨_, h2⟩ := this
        exact ⟨by show (1 : Nat) < 2; omega, h2⟩

set_option maxHeartbeats 16000000 in
set_option maxRecDepth 100000 in
theorem addRoute_first (w : World) (rb : Nat) (s : List Tok) (n : Nat) (full : ByteArray) (h : EmptyAt w rb) (hs : RouteIn full s) :
    Calls Try.prog 37 #[.pointer (some ⟨rb, 0, none⟩), .string full, .iface 3 (.int .i64 (n : Int))] w (RoutePost2 w rb [rb] [] s n) := by
  have hwl : wilds full.data.toList = cnt s := by rw [hs.text, wilds_enc s _ hs.val]
  have hcount := fun wx => countParams_any full wx hs.size (by rw [hwl]; have := hs.le; omega)
  obtain ⟨np0, hnp0⟩ : ∃ np0, np0 = cnt s := ⟨_, rfl⟩
  rw [hwl, ← hnp0] at hcount
  have hne : s ≠ [] := by intro e; have := hs.key; rw [e] at this; cases this
  have hrep := h.rep
  have hc0 : w.cell? ⟨rb, 0, none⟩ = some (.string ⟨#[]⟩) := hrep.c0
  have hc4 : w.cell? ⟨rb, 4, none⟩ = some (.int .u32 0) := hrep.c4
  have hf4 : w.frozen? ⟨rb, 4, none⟩ = false := hrep.free 4
  have hc6 : w.cell? ⟨rb, 6, none⟩ = some (.slice none 0 0) := hrep.c6
  have hrep1 := hrep.setPr 1
  have HINS : Hid (Calls Try.prog 42 #[.pointer (some ⟨rb, 0, none⟩), .int .u8 (np0 : Int), .string full, .string full, .iface 3 (.int .i64 (n : Int))] (w.setCell ⟨rb, 4, none⟩ (.int .u32 1)) fun e w' => e = .returned (.tuple #[]) ∧
      ∃ t', TreeAt w' t' [(s, n)] ∧ t'.b = rb ∧ (∀ x ∈ blocks t', x = rb ∨ w.heap.size ≤ x) ∧ Kept [rb] w w') := by
    have hin := insert_any (w.setCell ⟨rb, 4, none⟩ (.int .u32 1)) full full n (fun w' => ∃ t', TreeAt w' t' [(s, n)] ∧ t'.b = rb ∧ (∀ x ∈ blocks t', x = rb ∨ w.heap.size ≤ x) ∧ Kept [rb] w w') rb ⟨0, 0, 1, ⟨#[]⟩, none⟩ ⟨#[]⟩ none s hs.size
      ⟨hrep1, rfl, by rw [List.drop_zero]; exact hs.text, hne, ⟨_, hs.val⟩, by rw [List.drop_zero], by rw [hwl]; exact hs.le, by omega, by omega, ?_,
        .inl ⟨rfl, (by show (0 : Nat) < 2; omega), (fun j h1 h2 => by omega), (fun j h1 h2 => by omega), .inl ⟨rfl, rfl, rfl, fun x s2 e => by have := hs.key; rw [e] at this; cases this⟩⟩⟩
    · rw [hwl, ← hnp0] at hin
      exact hin
    · intro w' t' hb hr hw hR htag _ hkey hk hn
      have hsz : (w.setCell ⟨rb, 4, none⟩ (.int .u32 1)).heap.size = w.heap.size := by simp [World.setCell]
      rw [hsz] at hn
      refine ⟨t', ⟨hr, hw, htag rfl, ?_, by simpa [pre, bs, endR] using hR⟩, hb, hn, ((Kept.refl [rb] w).setCell (p := ⟨rb, 4, none⟩) (.inl (by simp)) _).trans hk.kept (fun x hx => .inl hx)⟩
      rw [hkey]
      have h1 := enc_key hs.key
      show (enc s).head?.getD 47 = 47
      rw [List.head?_eq_getElem?, h1]; rfl
  have HCOUNT := Lib.hid hcount
  clear h hwl hnp0 hcount hrep hrep1 hne
  go_enter Try.func37, Try.ntmps37
  go_wp2_with (first | (go_at_call 38; refine (HCOUNT.out _).mono ?_; rintro e w' ⟨rfl, rfl⟩) | (go_at_call 42; refine HINS.out.mono ?_; rintro e w' ⟨rfl, t', ht, htb, hsub, hkept⟩; (have hf2 : w'.frozen? ⟨rb, 2, none⟩ = false := by (rw [← htb]; cases t'; exact ht.rep.free 2)); (have hc2 : ∃ v, w'.cell? ⟨rb, 2, none⟩ = some (.int .u8 v) := by (rw [← htb]; cases t'; exact ⟨_, ht.rep.c2⟩)); obtain ⟨v2, hc2⟩ := hc2; (have HT' := Lib.hid ht); (have HTB := Lib.hid htb); (have HSUB := Lib.hid hsub); (have HKEPT := Lib.hid hkept); clear ht htb hsub hkept))
  go_end0
  obtain ⟨t2, ht2, hb2, hbl2⟩ := HT'.out.root
  rw [HTB.out] at ht2 hb2
  refine .inl ⟨?_, rfl, ⟨t2, ht2, hb2, ?_⟩, HKEPT.out.setCell (p := ⟨rb, 2, none⟩) (.inl (by simp)) _⟩
  · rintro ⟨r, hr, _⟩
    cases hr
  · intro x hx
    rw [hbl2] at hx
    rcases HSUB.out x hx with h1 | h1
    · exact .inl (by rw [h1]; simp)
    · exact .inr h1

end Go.Proofs.Ytcobbbbnmepmfaa
