/- A node that is being filled: what stands ready behind it. -/
import Derived.Test.YtcobbbbnmepmfaaPath
import Derived.Test.YtcobbbbnmepmfaaPrio
namespace Go.Proofs.Ytcobbbbnmepmfaa
open Go Go.RowKit Go.Lib Tr

namespace Tr

/-- Below block M, but for the blocks S, the world is as it was. -/
structure KeptM (M : Nat) (S : List Nat) (w w' : World) : Prop where
  os : w'.os = w.os
  tape : w'.tape = w.tape
  output : w'.output = w.output
  size : w.heap.size ≤ w'.heap.size
  block : ∀ k, k < M → k ∉ S → w'.heap[k]? = w.heap[k]?

theorem Kept.to {S : List Nat} {w w' : World} (h : Kept S w w') {M : Nat} (hM : M ≤ w.heap.size) : KeptM M S w w' := ⟨h.os, h.tape, h.output, h.size, fun k hk hs => h.block k (by omega) hs⟩
theorem KeptM.kept {S : List Nat} {w w' : World} (h : KeptM w.heap.size S w w') : Kept S w w' := ⟨h.os, h.tape, h.output, h.size, h.block⟩
theorem KeptM.trans {M M' : Nat} {S S' : List Nat} {a b c : World} (h : KeptM M S a b) (k : KeptM M' S' b c) (hM : M ≤ M') (hs : ∀ x ∈ S', x ∈ S ∨ M ≤ x) : KeptM M S a c :=
  ⟨k.os.trans h.os, k.tape.trans h.tape, k.output.trans h.output, Nat.le_trans h.size k.size, fun x hx hn => by
    refine (k.block x (by omega) (fun hx' => ?_)).trans (h.block x hx hn)
    rcases hs x hx' with h1 | h1
    · exact hn h1
    · omega⟩

/-- Whatever tree is laid at the block cur with just these routes: the end is reached. M: new blocks begin there. -/
def Fill (w : World) (M : Nat) (cur : Nat) (tag : Tag) (p0 : Bytes) (h0 : Option Nat) (P : List Tok) (n : Nat) (FIN : World → Prop) : Prop :=
  ∀ w' t', t'.b = cur → Rep w' t' → Wf t' → (R t').Perm (pre (bs p0) (endR h0 ++ [(P, n)])) → (tag = .st → t'.tag.stat) → (tag = .pm → t'.tag = .pm) → key t' = (p0 ++ enc P).head?.getD 47 → KeptM M [cur] w w' →
    (∀ x ∈ blocks t', x = cur ∨ M ≤ x) → FIN w'

theorem Rep.setP {w : World} {tag : Tag} {b : Nat} {d : Dec} {p : ByteArray} {h : Option Nat} {kids : List HT} (hr : Rep w (.mk tag b d p h kids)) (p' : ByteArray) :
    Rep (w.setCell ⟨b, 0, none⟩ (.string p')) (.mk tag b d p' h kids) := by
  obtain ⟨ty, e⟩ := hr.row
  refine hr.setRow rfl ⟨ty, ?_⟩ (fun x hx => Below.heap_setCell _ _ _ _ hx)
  rw [row_set e]
  rfl

theorem bs_of_cnt : ∀ (P : List Tok), cnt P = 0 → P = bs (enc P)
  | [], _ => rfl
  | .b c :: s, h => by
    have ih := bs_of_cnt s h
    have h2 : bs (enc (Tok.b c :: s)) = Tok.b c :: bs (enc s) := rfl
    rw [h2, ← ih]
  | .par x :: s, h => by simp [cnt] at h
  | .all z :: s, h => by simp [cnt] at h

theorem Val.plain_enc : ∀ {P : List Tok} {sl : Bool}, Val sl P → cnt P = 0 → ∀ c ∈ enc P, plain c
  | [], _, _, _ => by intro c hc; cases hc
  | .b u :: s, _, hv, h => by
    intro c hc
    rcases List.mem_cons.1 hc with rfl | hc
    · exact hv.1
    · exact Val.plain_enc hv.2.2 h c hc
  | .par x :: s, _, _, h => by simp [cnt] at h
  | .all z :: s, _, _, h => by simp [cnt] at h

/-- The last piece: text alone. -/
theorem Fill.text {w : World} {cur : Nat} {d : Dec} {P : List Tok} {sl : Bool} {n : Nat} {FIN : World → Prop} (hf : Fill w w.heap.size cur .st [] none P n FIN) (hr : Rep w (.mk .st cur d ⟨#[]⟩ none [])) (ha : d.arr = none) (hv : Val sl P) (hc : cnt P = 0) (hP : P ≠ [])
    (hnt : d.nt < 2) (hix : d.ix.data.toList = []) (p : ByteArray) (hp : p.data.toList = enc P) : FIN ((w.setCell ⟨cur, 0, none⟩ (.string p)).setCell ⟨cur, 7, none⟩ (hV (some n))) := by
  have hne : p.data.toList ≠ [] := by rw [hp]; exact fun e => hP ((enc_nil_iff P).1 e)
  refine hf _ (.mk .st cur d p (some n) []) rfl ((hr.setP p).setH (some n)) (Wf.of_top ⟨hnt, by rw [hp]; exact hv.plain_enc hc, (by intro k hk; cases hk), by rw [hix]; rfl, by simp, (by intro h; cases h), fun h => absurd h hne⟩ (by intro k hk; cases hk)) ?_ (fun _ => .inl rfl) (fun h => by cases h) ?_
    ((((Kept.refl _ w).setCell (.inl (by simp)) _).setCell (.inl (by simp)) _).to (Nat.le_refl _)) ?_
  · rw [R_mk, hp]
    have : toks .st (enc P) = P := (bs_of_cnt P hc).symm
    rw [this]
    simp [RL, endR, pre, bs]
  · simp [key, HT.p, hp]
  · intro x hx
    left
    rw [blocks_mk] at hx
    simpa [own, ha, blocksL, nodesL] using hx

/-- The last piece: a parameter. -/
theorem Fill.param {w : World} {cur : Nat} {d : Dec} {x : Bytes} {n : Nat} {FIN : World → Prop} (hf : Fill w w.heap.size cur .pm [] none [.par x] n FIN) (hr : Rep w (.mk .pm cur d ⟨#[]⟩ none [])) (ha : d.arr = none) (hx : name x)
    (hm : 1 ≤ d.mp) (hm2 : d.mp ≤ 255) (hix : d.ix.data.toList = []) (p : ByteArray) (hp : p.data.toList = 58 :: x) : FIN ((w.setCell ⟨cur, 0, none⟩ (.string p)).setCell ⟨cur, 7, none⟩ (hV (some n))) := by
  have hR : R (.mk .pm cur d p (some n) []) = [([.par x], n)] := by
    rw [R_mk, hp]
    simp [RL, endR, pre, toks]
  refine hf _ (.mk .pm cur d p (some n) []) rfl ((hr.setP p).setH (some n)) (Wf.of_top ⟨⟨x, hx, hp⟩, ?_, hm2, (by intro h; cases h), .inl ⟨rfl, hix⟩⟩ (by intro k hk; cases hk)) ?_ (fun h => by cases h) (fun _ => rfl) ?_
    ((((Kept.refl _ w).setCell (.inl (by simp)) _).setCell (.inl (by simp)) _).to (Nat.le_refl _)) ?_
  · intro r hr
    rw [hR] at hr
    rw [List.mem_singleton.1 hr]
    exact hm
  · rw [hR]; simp [endR, pre, bs]
  · simp [key, HT.p, hp, enc]
  · intro y hy
    left
    rw [blocks_mk] at hy
    simpa [own, ha, blocksL, nodesL] using hy

/-- A node over one child, out of its rows. -/
theorem Rep.over {w : World} {tag : Tag} {b a : Nat} {d : Dec} {p : ByteArray} {h : Option Nat} {k : HT} (ha : d.arr = some (a, [])) (hrow : ∃ ty, w.heap[b]? = some (.cells (vals tag d p h 1) ty (0, 0)))
    (harr : w.heap[a]? = some (.cells #[ptr k] 76 (0, 0))) (hk : Rep w k) (hba : b ≠ a) (hb : b ∉ blocks k) (hak : a ∉ blocks k) : Rep w (.mk tag b d p h [k]) := by
  have hown : own (.mk tag b d p h [k]) = [b, a] := by simp [own, ha]
  refine ⟨?_, ?_⟩
  · intro n hn
    unfold nodes at hn
    rcases List.mem_cons.1 hn with rfl | hn
    · refine ⟨hrow, ?_⟩
      rw [ha]
      exact ⟨harr, by simp [maxLen]⟩
    · have hn' : n ∈ nodes k := by simpa [nodesL] using hn
      exact hk.ok n hn'
  · rw [blocks_mk, hown, blocksL_cons, blocksL_nil, List.append_nil]
    refine List.nodup_append.2 ⟨by simp [hba], hk.nd, ?_⟩
    intro x hx y hy e
    subst e
    rcases List.mem_cons.1 hx with rfl | hx
    · exact hb hy
    · obtain rfl := List.mem_singleton.1 hx
      exact hak hy

theorem blocks_over {tag : Tag} {b a : Nat} {d : Dec} {p : ByteArray} {h : Option Nat} {k : HT} (ha : d.arr = some (a, [])) (x : Nat) : x ∈ blocks (.mk tag b d p h [k]) ↔ x = b ∨ x = a ∨ x ∈ blocks k := by
  rw [blocks_mk, blocksL_cons, blocksL_nil, List.append_nil]
  simp [own, ha]

theorem bs_append (a c : Bytes) : bs (a ++ c) = bs a ++ bs c := by simp [bs]

theorem head_eq {a b : Bytes} (h : a ≠ []) : (a ++ b).head? = a.head? := by cases a with | nil => exact absurd rfl h | cons x y => rfl

theorem R_down {tag : Tag} {cur : Nat} {dc : Dec} {pc : ByteArray} {h0 : Option Nat} {t' : HT} {p0 q : Bytes} {s : List Tok} {n : Nat} (ht : toks tag pc.data.toList = bs (p0 ++ q)) (hq : q = [] ∨ h0 = none) (hR : (R t').Perm [(s, n)]) :
    (R (.mk tag cur dc pc h0 [t'])).Perm (pre (bs p0) (endR h0 ++ [(bs q ++ s, n)])) := by
  rw [R_mk, ht]
  have h1 : (endR h0 ++ RL [t']).Perm (endR h0 ++ [(s, n)]) := by
    refine List.Perm.append_left _ ?_
    simpa [RL] using hR
  refine (h1.map (fun r : List Tok × Nat => (bs (p0 ++ q) ++ r.1, r.2))).trans ?_
  rcases hq with rfl | rfl
  · simp [bs, pre]
  · simp [endR, pre, bs_append]

/-- The static node cur stands above one child in the new block k, its array in the block a. -/
structure Laid (w W : World) (cur k a : Nat) (tag : Tag) (h0 : Option Nat) (pc : ByteArray) (dc : Dec) : Prop where
  kept : Kept [cur] w W
  row : ∃ ty, W.heap[cur]? = some (.cells (vals tag dc pc h0 1) ty (0, 0))
  darr : dc.arr = some (a, [])
  arr : W.heap[a]? = some (.cells #[.pointer (some ⟨k, 0, none⟩)] 76 (0, 0))

/-- Down to a parameter. -/
theorem Fill.down {w W : World} {cur N : Nat} {p0 q x : Bytes} {h0 : Option Nat} {pc : ByteArray} {dc : Dec} {s3 : List Tok} {n : Nat} {FIN : World → Prop} (hN : w.heap.size = N) (hcur : cur < N) (hl : Laid w W cur N (N + 1) .wc h0 pc dc) (_hsize : N + 2 ≤ W.heap.size)
    (hf : Fill w N cur .st p0 h0 (bs q ++ .par x :: s3) n FIN) (hpc : pc.data.toList = p0 ++ q) (hp : ∀ c ∈ p0 ++ q, plain c) (hlast : (p0 ++ q).getLast? = some 47) (hq : q = [] ∨ h0 = none) (hnt : dc.nt < 2) (hix : dc.ix.data.toList = []) :
    Fill W (N + 2) N .pm [] none (.par x :: s3) n FIN := by
  intro w' t' hb hr hw hR _ htag _ hk hn
  obtain ⟨ty, hrow⟩ := hl.row
  have hcN : cur ≠ N := by omega
  have hrow' : w'.heap[cur]? = some (.cells (vals .wc dc pc h0 1) ty (0, 0)) := (hk.block cur (by omega) (by simpa using hcN)).trans hrow
  have harr' : w'.heap[N + 1]? = some (.cells #[ptr t'] 76 (0, 0)) := by
    rw [hk.block (N + 1) (by omega) (by simp), hl.arr]
    simp [ptr, hb]
  have hst : t'.tag = .pm := htag rfl
  have hRep : Rep w' (.mk .wc cur dc pc h0 [t']) := Rep.over hl.darr ⟨ty, hrow'⟩ harr' hr (by omega) (fun h => by rcases hn _ h with e | e <;> omega) (fun h => by rcases hn _ h with e | e <;> omega)
  have hne : p0 ++ q ≠ [] := by intro e; rw [e] at hlast; cases hlast
  refine hf w' (.mk .wc cur dc pc h0 [t']) rfl hRep (Wf.of_top ⟨hnt, by rw [hpc]; exact hp, by rw [hpc]; exact hlast, hix, t', rfl, hst⟩ (by intro k hk'; rw [List.mem_singleton.1 hk']; exact hw)) ?_ (fun _ => .inr rfl) (fun h => by cases h) ?_ ?_ ?_
  · exact R_down (by rw [hpc]; rfl) hq (by simpa [pre, bs, endR] using hR)
  · rw [enc_append, enc_bs, ← List.append_assoc, head_eq hne]
    simp [key, HT.p, hpc]
  · exact ((hl.kept.to (Nat.le_of_eq hN.symm)).trans hk (by omega) (by intro y hy; right; rw [List.mem_singleton.1 hy]; exact Nat.le_refl _))
  · intro y hy
    rcases (blocks_over hl.darr y).1 hy with h | h | h
    · exact .inl h
    · right; omega
    · rcases hn y h with e | e
      · right; omega
      · right; omega

/-- Down from a parameter to the static node behind it. -/
theorem Fill.down2 {W : World} {N K : Nat} {x : Bytes} {px : ByteArray} {d1 : Dec} {s3 : List Tok} {n : Nat} {FIN : World → Prop} (hK : N + 2 = K) (hl : Laid W W N K (K + 1) .pm none px d1) (_hsize : K + 2 ≤ W.heap.size)
    (hf : Fill W K N .pm [] none (.par x :: s3) n FIN) (hpx : px.data.toList = 58 :: x) (hx : name x) (hs : slashed s3) (hs0 : s3 ≠ []) (hm : cnt s3 + 1 ≤ d1.mp) (hm2 : d1.mp ≤ 255) (hix : d1.ix.data.toList = []) :
    Fill W (K + 2) K .st [] none s3 n FIN := by
  intro w' t' hb hr hw hR htag _ hkey hk hn
  obtain ⟨ty, hrow⟩ := hl.row
  have hrow' : w'.heap[N]? = some (.cells (vals .pm d1 px none 1) ty (0, 0)) := (hk.block N (by omega) (by simp; omega)).trans hrow
  have harr' : w'.heap[K + 1]? = some (.cells #[ptr t'] 76 (0, 0)) := by
    rw [hk.block (K + 1) (by omega) (by simp), hl.arr]
    simp [ptr, hb]
  have hst : t'.tag.stat := htag rfl
  have hR1 : (R t').Perm [(s3, n)] := by simpa [pre, bs, endR] using hR
  have hkey47 : key t' = 47 := by
    rw [hkey]
    cases s3 with
    | nil => exact absurd rfl hs0
    | cons y s =>
      cases y with
      | b c => have : c = 47 := hs; simp [enc, this]
      | par z => exact absurd hs (by simp [slashed])
      | all z => simp [enc]
  have hRep : Rep w' (.mk .pm N d1 px none [t']) := Rep.over hl.darr ⟨ty, hrow'⟩ harr' hr (by omega) (fun h => by rcases hn _ h with e | e <;> omega) (fun h => by rcases hn _ h with e | e <;> omega)
  have hRR : (R (.mk .pm N d1 px none [t'])).Perm [(.par x :: s3, n)] := by
    rw [R_mk, hpx]
    have h1 : (endR none ++ RL [t']).Perm [(s3, n)] := by simpa [endR, RL] using hR1
    exact h1.map (fun r : List Tok × Nat => (toks .pm (58 :: x) ++ r.1, r.2))
  refine hf w' (.mk .pm N d1 px none [t']) rfl hRep (Wf.of_top ⟨⟨x, hx, hpx⟩, ?_, hm2, (fun _ => by simp), .inr ⟨t', rfl, hst, hkey47, .inl hix⟩⟩ (by intro k hk'; rw [List.mem_singleton.1 hk']; exact hw)) (by simpa [pre, bs, endR] using hRR) (fun h => by cases h) (fun _ => rfl) ?_ ?_ ?_
  · intro r hr'
    have := hRR.mem_iff.1 hr'
    rw [List.mem_singleton.1 this]
    exact hm
  · simp [key, HT.p, hpx, enc]
  · exact ((hl.kept.to (M := K) (by omega)).trans hk (by omega) (by intro y hy; right; rw [List.mem_singleton.1 hy]; exact Nat.le_refl _))
  · intro y hy
    rcases (blocks_over hl.darr y).1 hy with h | h | h
    · exact .inl h
    · right; omega
    · rcases hn y h with e | e
      · right; omega
      · right; omega

/-- All that is left: the two nodes below a static one. -/
theorem Fill.catch {w W : World} {cur N : Nat} {q z : Bytes} {pc pz : ByteArray} {dc d1 d2 : Dec} {n : Nat} {FIN : World → Prop} (hN : w.heap.size = N) (hcur : cur < N) (hl : Laid w W cur N (N + 1) .st none pc dc)
    (hl1 : Laid W W N (N + 2) (N + 3) .ch none ⟨#[]⟩ d1) (h2 : ∃ ty, W.heap[N + 2]? = some (.cells (vals .cl d2 pz (some n) 0) ty (0, 0))) (ha2 : d2.arr = none)
    (hf : Fill w N cur .st [] none (bs q ++ [.all z]) n FIN) (hpc : pc.data.toList = q) (hp : ∀ c ∈ q, plain c) (hnt : dc.nt < 2) (hix : dc.ix.data.toList = [47]) (hix1 : d1.ix.data.toList = [])
    (hz : name z) (hpz : pz.data.toList = 47 :: 42 :: z) (hix2 : d2.ix.data.toList = []) (hm : d2.mp = 1) : FIN W := by
  have hr2 : Rep W (.mk .cl (N + 2) d2 pz (some n) []) := by
    refine ⟨?_, ?_⟩
    · intro m hm'
      simp only [nodes, nodesL, List.mem_singleton] at hm'
      subst hm'
      refine ⟨h2, ?_⟩
      rw [ha2]
    · rw [blocks_mk]; simp [own, ha2, blocksL, nodesL]
  have hb2 : ∀ y, y ∈ blocks (.mk .cl (N + 2) d2 pz (some n) []) ↔ y = N + 2 := by
    intro y
    rw [blocks_mk]; simp [own, ha2, blocksL, nodesL]
  have hr1 : Rep W (.mk .ch N d1 ⟨#[]⟩ none [.mk .cl (N + 2) d2 pz (some n) []]) := Rep.over hl1.darr hl1.row (by rw [hl1.arr]; rfl) hr2 (by omega) (fun h => by have := (hb2 _).1 h; omega) (fun h => by have := (hb2 _).1 h; omega)
  have hb1 : ∀ y, y ∈ blocks (.mk .ch N d1 ⟨#[]⟩ none [.mk .cl (N + 2) d2 pz (some n) []]) ↔ y = N ∨ y = N + 3 ∨ y = N + 2 := by
    intro y
    rw [blocks_over hl1.darr, hb2]
  have hr0 : Rep W (.mk .st cur dc pc none [.mk .ch N d1 ⟨#[]⟩ none [.mk .cl (N + 2) d2 pz (some n) []]]) := Rep.over hl.darr hl.row (by rw [hl.arr]; rfl) hr1 (by omega) (fun h => by rcases (hb1 _).1 h with e | e | e <;> omega) (fun h => by rcases (hb1 _).1 h with e | e | e <;> omega)
  have hw2 : Wf (.mk .cl (N + 2) d2 pz (some n) []) := Wf.of_top ⟨⟨z, hz, hpz⟩, rfl, by simp, hix2, hm⟩ (by intro k hk; cases hk)
  have hw1 : Wf (.mk .ch N d1 ⟨#[]⟩ none [.mk .cl (N + 2) d2 pz (some n) []]) := Wf.of_top ⟨rfl, rfl, hix1, _, rfl, rfl⟩ (by intro k hk; rw [List.mem_singleton.1 hk]; exact hw2)
  have hR1 : R (.mk .ch N d1 ⟨#[]⟩ none [.mk .cl (N + 2) d2 pz (some n) []]) = [([.all z], n)] := by
    simp [R_mk, RL, toks, endR, pre, hpz]
  refine hf W _ rfl hr0 (Wf.of_top ⟨hnt, by rw [hpc]; exact hp, ?_, ?_, by simp, fun _ => by simp, fun _ => ⟨rfl, _, rfl, rfl⟩⟩ (by intro k hk; rw [List.mem_singleton.1 hk]; exact hw1)) ?_ (fun _ => .inl rfl) (fun h => by cases h) ?_ (hl.kept.to (Nat.le_of_eq hN.symm)) ?_
  · intro k hk
    rw [List.mem_singleton.1 hk]
    exact .inr (.inr rfl)
  · rw [hix]; rfl
  · exact R_down (p0 := []) (by rw [hpc]; rfl) (.inr rfl) (by rw [hR1])
  · rw [enc_append, enc_bs]
    cases q with
    | nil => simp [key, HT.p, hpc, enc]
    | cons a b => simp [key, HT.p, hpc]
  · intro y hy
    rcases (blocks_over hl.darr y).1 hy with h | h | h
    · exact .inl h
    · right; omega
    · rcases (hb1 y).1 h with e | e | e <;> right <;> omega

end Tr
end Go.Proofs.Ytcobbbbnmepmfaa
