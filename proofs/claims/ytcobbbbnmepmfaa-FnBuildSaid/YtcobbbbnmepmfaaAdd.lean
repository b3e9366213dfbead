/- What addRoute's loop keeps at its head, and what each way through the round makes of it. -/
import Derived.Test.YtcobbbbnmepmfaaStep
import Derived.Test.YtcobbbbnmepmfaaIdx
namespace Go.Proofs.Ytcobbbbnmepmfaa
open Go Go.RowKit Go.Lib Tr

structure AddAt (w0 : World) (T0 : HT) (s0 : List Tok) (n : Nat) (full pth : ByteArray) (t : HT) (s : List Tok) (np : Nat) (w : World) : Prop where
  rep : Rep w t
  wf : Wf t
  done : ∀ w', Done w t s n w' → Done w0 T0 s0 n w'
  bad : Bad (R t) s ↔ Bad (R T0) s0
  kept : Kept (blocks T0) w0 w
  sub : ∀ x ∈ blocks t, x ∈ blocks T0 ∨ w0.heap.size ≤ x
  text : pth.data.toList = enc s
  val : ∃ sl, Val sl s
  ne : s ≠ []
  head : (t.tag.stat ∧ sKey s = some (key t)) ∨ (t.tag = .pm ∧ (∃ s', s = .par t.p.data.toList.tail :: s') ∧ cnt s ≤ t.d.mp) ∨ (t.tag = .ch ∧ sKey s = some 47)
  np1 : t.tag = .pm → np + 1 = cnt s
  np2 : t.tag ≠ .pm → np = cnt s
  le : cnt s ≤ 20
  suf : ∃ A, full.data.toList = A ++ pth.data.toList
  len : ∀ r ∈ R t, (enc r.1).length ≤ 2147483647

/-- The tree has turned but for its routes. -/
theorem AddAt.like {w0 w W : World} {T0 t t1 : HT} {s0 s : List Tok} {n np : Nat} {full pth : ByteArray} (h : AddAt w0 T0 s0 n full pth t s np w) (hl : Like w t W t1) (hp : t.tag = .pm → t1.p = t.p ∧ t.d.mp ≤ t1.d.mp) : AddAt w0 T0 s0 n full pth t1 s np W := by
  have htag : t1.tag = .pm ↔ t.tag = .pm := by
    constructor
    · intro e
      by_cases hs : t.tag.stat
      · rcases hl.kin.stat hs with e' | e' <;> rw [e] at e' <;> cases e'
      · rw [← hl.kin.same hs]; exact e
    · intro e
      rw [hl.kin.same (by rintro (e' | e') <;> rw [e] at e' <;> cases e')]; exact e
  refine ⟨hl.rep, hl.wf, fun w' hd => h.done w' (hd.like hl), (Bad.perm hl.r).trans h.bad, h.kept.trans hl.kept h.sub, ?_, h.text, h.val, h.ne, ?_, fun e => h.np1 (htag.1 e), fun e => h.np2 (fun e' => e (htag.2 e')), h.le, h.suf, fun r hr => h.len r (hl.r.mem_iff.1 hr)⟩
  · intro x hx
    rcases hl.new x hx with h1 | h1
    · exact h.sub x h1
    · exact .inr (Nat.le_trans h.kept.size h1)
  · rcases h.head with ⟨h1, h2⟩ | ⟨h1, ⟨s', h2⟩, h3⟩ | ⟨h1, h2⟩
    · exact .inl ⟨hl.kin.stat h1, by rw [hl.kin.key]; exact h2⟩
    · obtain ⟨h4, h5⟩ := hp h1
      exact .inr (.inl ⟨htag.2 h1, ⟨s', by rw [h4]; exact h2⟩, Nat.le_trans h3 h5⟩)
    · exact .inr (.inr ⟨by rw [hl.kin.same (by rintro (e' | e') <;> rw [h1] at e' <;> cases e')]; exact h1, h2⟩)

/-- maxParams is raised. -/
theorem AddAt.mp {w0 w : World} {T0 : HT} {tag : Tag} {b : Nat} {d : Dec} {p : ByteArray} {h : Option Nat} {kids : List HT} {s0 s : List Tok} {n np m : Nat} {full pth : ByteArray}
    (ha : AddAt w0 T0 s0 n full pth (.mk tag b d p h kids) s np w) (hm : d.mp ≤ m) (hm2 : m ≤ 255) (hcl : tag ≠ .cl) : AddAt w0 T0 s0 n full pth (.mk tag b { d with mp := m } p h kids) s np (w.setCell ⟨b, 3, none⟩ (.int .u8 (m : Int))) := by
  have hR : R (.mk tag b { d with mp := m } p h kids) = R (.mk tag b d p h kids) := rfl
  have hb : blocks (.mk tag b { d with mp := m } p h kids) = blocks (.mk tag b d p h kids) := by simp [blocks_mk, own]
  refine ha.like ⟨⟨rfl, rfl, id, fun _ => rfl⟩, ha.rep.setMp m, Wf.of_top ?_ (fun k hk => ha.wf.kid (t := .mk tag b d p h kids) hk), by rw [hR], (Kept.refl _ w).setCell (.inl (mem_blocks_self (.mk tag b d p h kids))) _, fun x hx => by rw [hb] at hx; exact .inl hx⟩ (fun _ => ⟨rfl, hm⟩)
  have hs := ha.wf.top
  cases tag with
  | st => exact hs
  | wc => exact hs
  | pm =>
    obtain ⟨h1, h2, h3, h4, h5⟩ := hs
    exact ⟨h1, fun r hr => Nat.le_trans (h2 r hr) hm, hm2, h4, h5⟩
  | ch => exact hs
  | cl => exact absurd rfl hcl

/-- Where a static node's path and the new one part. -/
theorem lcp_stat : ∀ (p : Bytes) (s : List Tok) (sl : Bool) (i : Nat), (∀ c ∈ p, plain c) → Val sl s → i ≤ p.length → (∀ j, j < i → p[j]? = (enc s)[j]?) → (i = p.length ∨ i = (enc s).length ∨ p[i]? ≠ (enc s)[i]?) →
    (∃ s', s = bs (p.take i) ++ s' ∧ (enc s).drop i = enc s' ∧ (∀ c, p[i]? = some c → sKey s' ≠ some c)) ∨ (∃ q z, s = bs q ++ [.all z] ∧ p.take i = q ++ [47] ∧ (enc s).drop i = 42 :: z)
  | p, s, sl, 0, hp, hv, _, _, hstop => by
    refine .inl ⟨s, by simp [bs], rfl, ?_⟩
    intro c hc hk
    rcases hstop with h | h | h
    · have := List.length_eq_zero_iff.1 h.symm
      rw [this] at hc; cases hc
    · have := List.length_eq_zero_iff.1 h.symm
      rw [(enc_nil_iff s).1 this] at hk; cases hk
    · rw [hc] at h
      match s, hk with
      | .b c' :: s, hk => exact h (by simpa [enc, sKey] using hk.symm)
      | .all z :: s, hk => exact h (by simpa [enc, sKey] using hk.symm)
  | [], s, sl, i + 1, _, _, hi, _, _ => by simp at hi
  | c :: p, s, sl, i + 1, hp, hv, hi, heq, hstop => by
    have h0 : some c = (enc s)[0]? := by simpa using heq 0 (by omega)
    match s, hv with
    | [], _ => cases h0
    | .b c' :: s, hv =>
      have hcc : c = c' := by simpa [enc] using h0
      subst hcc
      have ih := lcp_stat p s (c == 47) i (fun x hx => hp x (by simp [hx])) hv.2.2 (by simpa using hi) (fun j hj => by simpa [enc] using heq (j + 1) (by omega)) (by
        rcases hstop with h | h | h
        · exact .inl (by simpa using h)
        · exact .inr (.inl (by simpa [enc] using h))
        · exact .inr (.inr (by simpa [enc] using h)))
      rcases ih with ⟨s', h1, h2, h3⟩ | ⟨q, z, h1, h2, h3⟩
      · exact .inl ⟨s', by rw [List.take_succ_cons]; conv => lhs; rw [h1]
                           rfl, by simpa [enc] using h2, by simpa using h3⟩
      · exact .inr ⟨c :: q, z, by conv => lhs; rw [h1]
                                  rfl, by rw [List.take_succ_cons, h2]; rfl, by simpa [enc] using h3⟩
    | .par x :: s, _ =>
      have : c = 58 := by simpa [enc] using h0
      exact absurd this (hp c (by simp)).1
    | .all z :: s, hv =>
      obtain ⟨_, _, rfl⟩ := hv
      have hc : c = 47 := by simpa [enc] using h0
      subst hc
      cases i with
      | zero => exact .inr ⟨[], z, rfl, by simp, by simp [enc]⟩
      | succ i =>
        exfalso
        have h1 := heq 1 (by omega)
        have hl : 1 < (47 :: p).length := by simp at hi ⊢; omega
        rw [List.getElem?_eq_getElem hl] at h1
        have h2 : (47 :: p)[1] = 42 := by simpa [enc] using h1
        exact (hp _ (List.getElem_mem hl)).2 h2

/-- Behind the split: the node's own path is used up. -/
structure Mid (t : HT) (s : List Tok) (rest : Bytes) : Prop where
  or : (∃ s', s = toks t.tag t.p.data.toList ++ s' ∧ rest = enc s') ∨ (t.tag.stat ∧ ∃ q z, s = bs q ++ [.all z] ∧ t.p.data.toList = q ++ [47] ∧ rest = 42 :: z)

theorem toks_stat {tag : Tag} (h : tag.stat) (p : Bytes) : toks tag p = bs p := by rcases h with rfl | rfl <;> rfl

/-- The split. -/
theorem AddAt.split {w0 w W : World} {T0 : HT} {tag : Tag} {b N : Nat} {d d1 d2 : Dec} {p p1 p2 : ByteArray} {h : Option Nat} {kids : List HT} {s0 s : List Tok} {n np i : Nat} {full pth : ByteArray}
    (ha : AddAt w0 T0 s0 n full pth (.mk tag b d p h kids) s np w) (hs : tag.stat) (hi : i < p.data.toList.length) (hi0 : 0 < i) (hN : w.heap.size = N) (hkW : Kept [b] w W)
    (hrow : ∃ ty, W.heap[b]? = some (.cells (vals .st d1 p1 none 1) ty (0, 0))) (ha1 : d1.arr = some (N + 1, [])) (harr : W.heap[N + 1]? = some (.cells #[.pointer (some ⟨N, 0, none⟩)] 76 (0, 0)))
    (hlow : ∃ ty, W.heap[N]? = some (.cells (vals tag d2 p2 h kids.length) ty (0, 0))) (ha2 : d2.arr = d.arr) (hix2 : d2.ix = d.ix) (hnt2 : d2.nt < 2) (hnt1 : d1.nt < 2)
    (hp1 : p1.data.toList = p.data.toList.take i) (hp2 : p2.data.toList = p.data.toList.drop i) (hix1 : ∃ c, p.data.toList[i]? = some c ∧ d1.ix.data.toList = [c]) :
    AddAt w0 T0 s0 n full pth (.mk .st b d1 p1 none [.mk tag N d2 p2 h kids]) s np W := by
  have hblt : b < N := by rw [← hN]; exact ha.rep.blt
  have hlt := ha.rep.lt
  rw [hN] at hlt
  have hnd := ha.rep.nd
  rw [blocks_mk] at hnd
  obtain ⟨n1, n2, n3⟩ := List.nodup_append.1 hnd
  have hbo : b ∈ own (.mk tag b d p h kids) := by unfold own; simp only; split <;> simp
  -- the lower node
  have hownL : own (.mk tag N d2 p2 h kids) = N :: (own (.mk tag b d p h kids)).tail := by
    simp only [own]
    rw [ha2]
    cases d.arr <;> rfl
  have hownH : own (.mk tag b d p h kids) = b :: (own (.mk tag b d p h kids)).tail := by
    simp only [own]
    cases d.arr <;> rfl
  have hrepL : Rep W (.mk tag N d2 p2 h kids) := by
    refine ⟨?_, ?_⟩
    · intro m hm
      unfold nodes at hm
      rcases List.mem_cons.1 hm with rfl | hm
      · refine ⟨hlow, ?_⟩
        have h2 := ha.rep.node.2
        rw [ha2]
        cases hda : d.arr with
        | none => simp only [hda] at h2; exact h2
        | some q =>
          obtain ⟨g, sp⟩ := q
          simp only [hda] at h2
          have hg := (ha.rep.arr hda).2.2
          have hgl : g < N := hlt g (by rw [blocks_mk]; unfold own; simp [hda])
          exact ⟨by rw [hkW.block g (by omega) (by simpa using hg)]; exact h2.1, h2.2⟩
      · have hm' : m ∈ nodes (.mk tag b d p h kids) := by unfold nodes; exact List.mem_cons_of_mem _ hm
        refine (ha.rep.ok m hm').same fun x hx => ?_
        have hxk : x ∈ blocksL kids := List.mem_flatMap.2 ⟨m, hm, hx⟩
        have hxl : x < N := hlt x (by rw [blocks_mk]; simp [hxk])
        exact hkW.block x (by omega) (by simpa using fun e : x = b => n3 b hbo x hxk e.symm)
    · rw [blocks_mk, hownL]
      rw [hownH] at n1 n3
      have n1' := List.nodup_cons.1 n1
      refine List.nodup_append.2 ⟨List.nodup_cons.2 ⟨fun hN' => ?_, n1'.2⟩, n2, ?_⟩
      · have : N < N := hlt N (by rw [blocks_mk, hownH]; simp [hN'])
        omega
      · intro x hx y hy e
        subst e
        rcases List.mem_cons.1 hx with rfl | hx
        · have : x < x := hlt x (by rw [blocks_mk]; simp [hy])
          omega
        · exact n3 x (by simp [hx]) x hy rfl
  have hblL : ∀ x ∈ blocks (.mk tag N d2 p2 h kids), x = N ∨ (x ∈ blocks (.mk tag b d p h kids) ∧ x ≠ b) := by
    intro x hx
    rw [blocks_mk, hownL] at hx
    rw [hownH] at n1 n3
    rcases List.mem_append.1 hx with hx | hx
    · rcases List.mem_cons.1 hx with h1 | h1
      · exact .inl h1
      · refine .inr ⟨by rw [blocks_mk, hownH]; simp [h1], fun e => ?_⟩
        subst e
        exact (List.nodup_cons.1 n1).1 h1
    · exact .inr ⟨by rw [blocks_mk]; simp [hx], fun e => n3 b (by simp) x hx e.symm⟩
  have hbN1 : b ≠ N + 1 := by omega
  have hrep : Rep W (.mk .st b d1 p1 none [.mk tag N d2 p2 h kids]) := Rep.over ha1 hrow (by rw [harr]; rfl) hrepL hbN1
    (fun hx => by rcases hblL b hx with e | ⟨_, e⟩; omega; exact e rfl)
    (fun hx => by rcases hblL _ hx with e | ⟨e, _⟩; omega; have := hlt _ e; omega)
  have hp2ne : p2.data.toList ≠ [] := by rw [hp2]; intro e; have := congrArg List.length e; rw [List.length_drop, List.length_nil] at this; omega
  have hplain : ∀ c ∈ p.data.toList, plain c := by
    have := ha.wf.top
    rcases hs with rfl | rfl
    · exact this.2.1
    · exact this.2.1
  have hkeyL : ∃ c, p.data.toList[i]? = some c ∧ key (.mk tag N d2 p2 h kids) = c := by
    obtain ⟨c, hc, _⟩ := hix1
    refine ⟨c, hc, ?_⟩
    simp only [key, HT.p, hp2, List.head?_drop, hc]
    rfl
  have hwL : Wf (.mk tag N d2 p2 h kids) := by
    refine Wf.of_top ?_ (fun k hk => ha.wf.kid (t := .mk tag b d p h kids) hk)
    have hsh := ha.wf.top
    rcases hs with rfl | rfl
    · obtain ⟨_, _, h3, h4, h5, h6, _⟩ := hsh
      exact ⟨hnt2, (fun c hc => hplain c (by rw [hp2] at hc; exact List.mem_of_mem_drop hc)), h3, by rw [hix2]; exact h4, h5, h6, fun e => absurd e hp2ne⟩
    · obtain ⟨_, _, h3, h4, h5⟩ := hsh
      refine ⟨hnt2, (fun c hc => hplain c (by rw [hp2] at hc; exact List.mem_of_mem_drop hc)), ?_, by rw [hix2]; exact h4, h5⟩
      rw [hp2, List.getLast?_drop, if_neg (by omega)]; exact h3
  have hp1ne : p1.data.toList ≠ [] := by rw [hp1]; intro e; have := congrArg List.length e; rw [List.length_take, List.length_nil] at this; omega
  have hwf : Wf (.mk .st b d1 p1 none [.mk tag N d2 p2 h kids]) := by
    refine Wf.of_top ⟨hnt1, (fun c hc => hplain c (by rw [hp1] at hc; exact List.mem_of_mem_take hc)), ?_, ?_, by simp, fun _ => by simp, fun e => absurd e hp1ne⟩ (by intro k hk; rw [List.mem_singleton.1 hk]; exact hwL)
    · intro k hk
      rw [List.mem_singleton.1 hk]
      rcases hs with rfl | rfl
      · exact .inl rfl
      · exact .inr (.inl rfl)
    · obtain ⟨c, hc, hcx⟩ := hix1
      obtain ⟨c', hc', hk'⟩ := hkeyL
      rw [hc] at hc'
      rw [hcx, List.map_cons, hk', Option.some.inj hc']; rfl
  have hR : R (.mk .st b d1 p1 none [.mk tag N d2 p2 h kids]) = R (.mk tag b d p h kids) := by
    rw [R_mk, R_mk, RL_cons, R_mk, toks_stat hs, toks_stat hs, toks_stat (.inl rfl), hp1, hp2]
    simp only [endR, RL, List.nil_append, List.append_nil, pre_pre, ← bs_append, List.take_append_drop]
  refine ha.like ⟨⟨rfl, ?_, fun _ => .inl rfl, fun e => absurd hs e⟩, hrep, hwf, by rw [hR], hkW.mono (fun x hx => by rw [List.mem_singleton.1 hx]; exact .inl (mem_blocks_self (.mk tag b d p h kids))), ?_⟩ ?_
  · simp only [key, HT.p, hp1]
    cases hpp : p.data.toList with
    | nil => rw [hpp] at hi; simp at hi
    | cons a l =>
      obtain ⟨j, rfl⟩ : ∃ j, i = j + 1 := ⟨i - 1, by omega⟩
      rfl
  · intro x hx
    rcases (blocks_over ha1 x).1 hx with e | e | e
    · exact .inl (by rw [e]; exact mem_blocks_self (.mk tag b d p h kids))
    · right; omega
    · rcases hblL x e with e | ⟨e, _⟩
      · right; omega
      · exact .inl e
  · intro e
    have e' : tag = .pm := e
    rcases hs with h1 | h1 <;> rw [h1] at e' <;> cases e'

end Go.Proofs.Ytcobbbbnmepmfaa
