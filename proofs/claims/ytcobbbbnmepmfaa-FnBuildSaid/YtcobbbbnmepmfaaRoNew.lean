/- addRoute's round: a new child is laid: the plain part. -/
import Derived.Test.YtcobbbbnmepmfaaRoFind
namespace Go.Proofs.Ytcobbbbnmepmfaa
open Go Go.RowKit Go.Lib Tr

theorem blocks_leaf {rb : Nat} {rd : Dec} (ha : rd.arr = none) : blocks (.mk .st rb rd ⟨#[]⟩ none []) = [rb] := by simp [blocks_mk, own, ha, blocksL, nodesL]

theorem Rep.snoc {w w' : World} {tag : Tag} {b rb g2 : Nat} {d d1 rd : Dec} {p : ByteArray} {h : Option Nat} {kids : List HT} {sp2 : List Value} (hr : Rep w (.mk tag b d p h kids))
    (hrow : ∃ ty, w'.heap[b]? = some (.cells (vals tag d1 p h (kids.length + 1)) ty (0, 0))) (hnew : ∃ ty, w'.heap[rb]? = some (.cells (vals .st rd ⟨#[]⟩ none 0) ty (0, 0))) (hra : rd.arr = none)
    (ha1 : d1.arr = some (g2, sp2)) (hg2 : w'.heap[g2]? = some (.cells ((kids.map ptr ++ [Value.pointer (some ⟨rb, 0, none⟩)]) ++ sp2).toArray 76 (0, 0))) (hlen : kids.length + 1 + sp2.length ≤ maxLen)
    (hkids : ∀ x ∈ blocksL kids, w'.heap[x]? = w.heap[x]?) (hrb : rb ∉ blocks (.mk tag b d p h kids)) (hrg : rb ≠ g2) (hbg : b ≠ g2) (hg : g2 ∉ blocksL kids) :
    Rep w' (.mk tag b d1 p h (kids ++ [.mk .st rb rd ⟨#[]⟩ none []])) := by
  have hbl := blocks_leaf (rb := rb) hra
  have hrb2 : rb ≠ b ∧ rb ∉ blocksL kids := by
    constructor
    · intro e; subst e; exact hrb (mem_blocks_self (.mk tag rb d p h kids))
    · intro e; exact hrb (by rw [blocks_mk]; simp [e])
  have hnd := hr.nd
  rw [blocks_mk] at hnd
  obtain ⟨_, n2, n3⟩ := List.nodup_append.1 hnd
  have hbo : b ∈ own (.mk tag b d p h kids) := by unfold own; simp only; split <;> simp
  refine ⟨?_, ?_⟩
  · intro m hm
    unfold nodes at hm
    rcases List.mem_cons.1 hm with rfl | hm
    · refine ⟨?_, ?_⟩
      · obtain ⟨ty, e⟩ := hrow
        refine ⟨ty, ?_⟩
        rw [e]
        simp
      · rw [ha1]
        refine ⟨?_, ?_⟩
        · rw [hg2]
          simp [ptr, HT.b]
        · simpa using hlen
    · rw [nodesL_append] at hm
      rcases List.mem_append.1 hm with hm | hm
      · have hm' : m ∈ nodes (.mk tag b d p h kids) := by unfold nodes; exact List.mem_cons_of_mem _ hm
        exact (hr.ok m hm').same fun x hx => hkids x (List.mem_flatMap.2 ⟨m, hm, hx⟩)
      · have : m = .mk .st rb rd ⟨#[]⟩ none [] := by simpa [nodesL, nodes] using hm
        subst this
        exact ⟨hnew, by rw [hra]⟩
  · have ho : own (.mk tag b d1 p h (kids ++ [.mk .st rb rd ⟨#[]⟩ none []])) = [b, g2] := by simp [own, ha1]
    rw [blocks_mk, ho, blocksL_append, blocksL_cons, blocksL_nil, hbl]
    refine List.nodup_append.2 ⟨by simp [hbg], List.nodup_append.2 ⟨n2, by simp, ?_⟩, ?_⟩
    · intro x hx y hy e
      subst e
      have : x = rb := by simpa using hy
      subst this
      exact hrb2.2 hx
    · intro x hx y hy e
      subst e
      have hx' : x = b ∨ x = g2 := by simpa using hx
      have hy' : x ∈ blocksL kids ∨ x = rb := by simpa using hy
      rcases hx' with rfl | rfl
      · rcases hy' with hy' | rfl
        · exact n3 x hbo x hy' rfl
        · exact hrb2.1 rfl
      · rcases hy' with hy' | rfl
        · exact hg hy'
        · exact hrg rfl

section
variable {w0 w w1 w2 : World} {T0 : HT} {tag : Tag} {b rb : Nat} {d d1 rd : Dec} {p : ByteArray} {h : Option Nat} {kids : List HT} {s0 s s' : List Tok} {n np : Nat} {full pth pth' : ByteArray} {c : UInt8} {e : Ending}

/-- insertChild comes to what addRoute comes to. -/
def InsOk (w0 : World) (T0 : HT) (s0 : List Tok) (n np rb : Nat) (full pth' : ByteArray) (w : World) : Prop :=
  Calls Try.prog 42 #[.pointer (some ⟨rb, 0, none⟩), .int .u8 (np : Int), .string pth', .string full, .iface 3 (.int .i64 (n : Int))] w fun e w' => e = .returned (.tuple #[]) ∧ AddPost w0 T0 s0 n (.returned (.tuple #[])) w'

theorem new_next (ha : AddAt w0 T0 s0 n full pth (.mk tag b d p h kids) s np w) (hs : s = toks tag p.data.toList ++ s') (hc : sKey s' = some c) (htag : tag = .st ∨ tag = .pm) (hpmk : tag = .pm → kids = [] ∧ c = 47) (hnk : ∀ k ∈ kids, key k ≠ c)
    (hixl : d.ix.data.toList.length = kids.length) (hrest : pth'.data.toList = enc s') (hps : pth'.size ≤ 2147483647) (hcnt : np = cnt s')
    (hra : rd.arr = none) (hrn : rd.nt = 0) (hrx : rd.ix = ⟨#[]⟩) (hd1 : d1.nt = d.nt) (hd2 : d1.mp = d.mp) (hd3 : d1.ix.data.toList = d.ix.data.toList ++ [c]) (hk1 : Kept (blocks (.mk tag b d p h kids)) w w1)
    (hsub : ∀ x ∈ blocks (.mk tag b d1 p h (kids ++ [.mk .st rb rd ⟨#[]⟩ none []])), x ∈ blocks (.mk tag b d p h kids) ∨ w.heap.size ≤ x)
    (hp : PrioPost w1 tag b d1 p h (kids ++ [.mk .st rb rd ⟨#[]⟩ none []]) kids.length e w2) : InsOk w0 T0 s0 n np rb full pth' w2 := by
  obtain ⟨A, B, C, k, pr, ix', hkk, hlen, rfl, hrep, hkept, i1, i2, i3, cc, e1, e2, l1, l2⟩ := hp
  have hC : C = [] := by
    have := congrArg List.length hkk
    simp only [List.length_append, List.length_cons, List.length_nil] at this
    exact List.length_eq_zero_iff.1 (by omega)
  subst hC
  rw [← List.append_assoc] at hkk
  obtain ⟨hkids, hk⟩ := List.append_inj' hkk (by simp)
  have hk' : k = .mk .st rb rd ⟨#[]⟩ none [] := by simpa using hk.symm
  subst hk'
  have hi3 : i3 = [] ∧ cc = c ∧ d.ix.data.toList = i1 ++ i2 := by
    rw [hd3] at e1
    have hl := congrArg List.length e1
    simp only [List.length_append, List.length_cons, List.length_nil] at hl
    have h3 : i3 = [] := List.length_eq_zero_iff.1 (by omega)
    subst h3
    rw [← List.append_assoc] at e1
    obtain ⟨h4, h5⟩ := List.append_inj' e1 (by simp)
    exact ⟨rfl, by simpa using h5.symm, h4⟩
  obtain ⟨rfl, rfl, hdix⟩ := hi3
  rw [List.append_nil] at hrep
  have hk2 : Kept (blocks (.mk tag b d p h kids)) w w2 := hk1.trans hkept hsub
  have hfill := ha.fillnew (W := w2) (A := A) (B := B) (rb := rb) (rd := { rd with pr := pr }) (d2 := { d1 with ix := ix' }) hs hc htag hkids hpmk hnk hrep hra hk2 (by
    intro x hx
    refine hsub x ?_
    have h1 := (blocks_move (tag := tag) (b := b) (d := d1) (p := p) (h := h) (A := A) (B := B) (k := .mk .st rb rd ⟨#[]⟩ none []) (C := []) (pr := pr) (d' := { d1 with ix := ix' }) rfl x).1 (by simpa [HT.setPr] using hx)
    rw [hkids, List.append_assoc]
    exact h1) hd1 hd2 ⟨i1, i2, hdix, by rw [e2, List.append_nil], l1⟩
  obtain ⟨sl, hv⟩ := ha.val
  rw [hs] at hv
  obtain ⟨sl', hv'⟩ := Val.drop_toks hv (by rcases htag with rfl | rfl <;> intro e <;> cases e)
  have hle : cnt s' ≤ 20 := by
    have := ha.le
    rw [hs, cnt_toks (by rcases htag with rfl | rfl <;> intro e <;> cases e)] at this
    omega
  have hwl : wilds pth'.data.toList = np := by rw [hrest, wilds_enc s' sl' hv', hcnt]
  have hkr : (HT.mk .st rb { rd with pr := pr } ⟨#[]⟩ none []) ∈ A ++ (.mk .st rb { rd with pr := pr } ⟨#[]⟩ none []) :: B := by simp
  have hrk := hrep.kid (t := .mk tag b { d1 with ix := ix' } p h (A ++ (.mk .st rb { rd with pr := pr } ⟨#[]⟩ none []) :: B)) hkr
  have hin := insert_any w2 pth' full n (fun w' => AddPost w0 T0 s0 n (.returned (.tuple #[])) w') rb { rd with pr := pr } ⟨#[]⟩ none s' hps
    ⟨hrk, by rw [show ({ rd with pr := pr } : Dec).ix = rd.ix from rfl, hrx], by rw [List.drop_zero]; exact hrest, (by intro e; rw [e] at hc; cases hc), ⟨sl', hv'⟩, by rw [List.drop_zero], by rw [hwl, hcnt]; exact hle, by omega, by omega, hfill,
      .inl ⟨rfl, (by show rd.nt < 2; omega), (fun j h1 h2 => by omega), (fun j h1 h2 => by omega), .inl ⟨rfl, rfl, hra, fun x s e => by rw [e] at hc; cases hc⟩⟩⟩
  rw [hwl] at hin
  exact hin

/-- A parameter below a static leaf. -/
theorem par_next (ha : AddAt w0 T0 s0 n full pth (.mk .st b d p h []) s np w) {x : Bytes} {s2 : List Tok} (hs : s = toks .st p.data.toList ++ .par x :: s2) (hrest : pth'.data.toList = enc (.par x :: s2)) (hps : pth'.size ≤ 2147483647) (hcnt : np = cnt (.par x :: s2)) : InsOk w0 T0 s0 n np b full pth' w := by
  have hfill := ha.fillpar hs
  obtain ⟨sl, hv⟩ := ha.val
  rw [hs] at hv
  have hsh := ha.wf.top
  obtain ⟨h1, h2, _, h4, _, _, h7⟩ := hsh
  have hpne : p.data.toList ≠ [] := by
    intro e
    obtain ⟨_, k, hk, _⟩ := h7 e
    cases hk
  have hv' : Val (p.data.toList.getLast? == some 47) (.par x :: s2) := Val.drop_bs hv hpne
  have hlast : p.data.toList.getLast? = some 47 := by
    have := hv'.1
    simpa using this
  have hle : cnt (.par x :: s2) ≤ 20 := by
    have := ha.le
    rw [hs, cnt_toks (by intro e; cases e)] at this
    omega
  have hwl : wilds pth'.data.toList = np := by rw [hrest, wilds_enc _ _ hv', hcnt]
  have hin := insert_any w pth' full n (fun w' => AddPost w0 T0 s0 n (.returned (.tuple #[])) w') b d p h (.par x :: s2) hps
    ⟨ha.rep, (by rw [h4]; rfl), by rw [List.drop_zero]; exact hrest, by simp, ⟨_, hv'⟩, by rw [List.drop_zero], by rw [hwl, hcnt]; exact hle, by omega, by omega, hfill,
      .inl ⟨rfl, h1, (fun j h1 h2 => by omega), (fun j h1 h2 => by omega), .inr ⟨rfl, rfl, ⟨x, s2, rfl⟩, h2, hlast⟩⟩⟩
  rw [hwl] at hin
  exact hin

end

theorem nodup_lt : ∀ (n : Nat) (l : List Nat), l.Nodup → (∀ x ∈ l, x < n) → l.length ≤ n
  | 0, l, _, h => by
    cases l with
    | nil => simp
    | cons a l => exact absurd (h a (by simp)) (by omega)
  | n + 1, l, hd, h => by
    by_cases hm : n ∈ l
    · have h1 := nodup_lt n (l.erase n) (hd.erase n) (fun x hx => by
        rw [hd.mem_erase_iff] at hx
        have := h x hx.2
        omega)
      rw [List.length_erase_of_mem hm] at h1
      omega
    · have h1 := nodup_lt n l hd (fun x hx => by
        have := h x hx
        by_cases e : x = n
        · subst e; exact absurd hx hm
        · omega)
      omega

theorem nodup_u8 {l : List UInt8} (h : l.Nodup) : l.length ≤ 256 := by
  have h1 : (l.map UInt8.toNat).Nodup := by
    unfold List.Nodup at h ⊢
    rw [List.pairwise_map]
    exact h.imp fun hne e => hne (UInt8.toNat_inj.1 e)
  have := nodup_lt 256 _ h1 (fun x hx => by
    obtain ⟨y, _, rfl⟩ := List.mem_map.1 hx
    exact y.toNat_lt)
  simpa using this

end Go.Proofs.Ytcobbbbnmepmfaa
