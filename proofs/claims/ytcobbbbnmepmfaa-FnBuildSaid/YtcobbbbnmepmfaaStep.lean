/- What insertChild's loop keeps at its head, and what each way through the round makes of it. -/
import Derived.Test.YtcobbbbnmepmfaaFill
namespace Go.Proofs.Ytcobbbbnmepmfaa
open Go Go.RowKit Go.Lib Tr

/-- Where insertChild stands at its loop's head. -/
structure InAt (L : Bytes) (n : Nat) (FIN : World → Prop) (cur : Nat) (tag : Tag) (d : Dec) (p0 : ByteArray) (h0 : Option Nat) (P : List Tok) (off i np : Nat) (w : World) : Prop where
  rep : Rep w (.mk tag cur d p0 h0 [])
  ix : d.ix.data.toList = []
  text : L.drop off = enc P
  ne : P ≠ []
  val : ∃ sl, Val sl P
  eqn : np = wilds (L.drop i)
  le20 : np ≤ 20
  il : i ≤ L.length
  ol : off ≤ L.length
  fill : Fill w w.heap.size cur tag p0.data.toList h0 P n FIN
  kind : (tag = .st ∧ d.nt < 2 ∧ (∀ j, off ≤ j → j < i → ∃ y, L[j]? = some y ∧ plain y) ∧ (∀ j, i ≤ j → j < off → ∃ y, L[j]? = some y ∧ plain y) ∧
      ((p0 = ⟨#[]⟩ ∧ h0 = none ∧ d.arr = none ∧ (∀ x s, P ≠ .par x :: s)) ∨ (off = 0 ∧ i = 0 ∧ (∃ x s, P = .par x :: s) ∧ (∀ c ∈ p0.data.toList, plain c) ∧ p0.data.toList.getLast? = some 47))) ∨
    (tag = .pm ∧ p0 = ⟨#[]⟩ ∧ h0 = none ∧ d.arr = none ∧ np = 0 ∧ 1 ≤ d.mp ∧ d.mp ≤ 255 ∧ ∃ x, P = [.par x] ∧ name x)

theorem arrV_slice (a : Option (Nat × List Value)) (n : Nat) : ∃ ao c, arrV a n = .slice ao (match a with | none => 0 | some _ => n) c := by
  cases a with
  | none => exact ⟨none, 0, rfl⟩
  | some q => exact ⟨_, _, rfl⟩

theorem alloc_at (w : World) (o : Obj) : (w.alloc o).heap[w.heap.size]? = some o := heap_alloc_new w o
theorem alloc_size (w : World) (o : Obj) : (w.alloc o).heap.size = w.heap.size + 1 := by simp
theorem alloc_lt (w : World) (o : Obj) {k : Nat} (h : k < w.heap.size) : (w.alloc o).heap[k]? = w.heap[k]? := Below.heap_alloc _ _ _ h

variable {L : Bytes} {n : Nat} {FIN : World → Prop} {cur : Nat} {tag : Tag} {d : Dec} {p0 : ByteArray} {h0 : Option Nat} {P : List Tok} {off i np : Nat} {w : World}

/-- The round's plain byte. -/
theorem InAt.next (h : InAt L n FIN cur tag d p0 h0 P off i np w) (hz : np ≠ 0) {c : UInt8} (hi : L[i]? = some c) (hc : plain c) : InAt L n FIN cur tag d p0 h0 P off (i + 1) np w := by
  obtain ⟨hlt, _⟩ := List.getElem?_eq_some_iff.1 hi
  refine { h with eqn := ?_, il := by omega, kind := ?_ }
  · rw [h.eqn, Cp_drop_cons hi, wilds_cons_plain c hc]
  · rcases h.kind with ⟨h1, h2, h3, h4, h5⟩ | ⟨_, _, _, _, h5, _⟩
    · refine .inl ⟨h1, h2, ?_, fun j hj hj2 => h4 j (by omega) hj2, ?_⟩
      · intro j hj hj2
        by_cases e : j = i
        · subst e; exact ⟨c, hi, hc⟩
        · exact h3 j hj (by omega)
      · rcases h5 with h5 | ⟨h6, h7, ⟨x, s, h8⟩, _⟩
        · exact .inl h5
        · exfalso
          have := h.text
          rw [h6, h8, List.drop_zero] at this
          rw [h7, this] at hi
          have : (58 : UInt8) = c := by simpa [enc] using hi
          exact hc.1 this.symm
    · exact absurd h5 hz

/-- The loop is left. -/
theorem InAt.fin (h : InAt L n FIN cur tag d p0 h0 P off i np w) (hz : np = 0) (p : ByteArray) (hp : p.data.toList = L.drop off) : FIN ((w.setCell ⟨cur, 0, none⟩ (.string p)).setCell ⟨cur, 7, none⟩ (hV (some n))) := by
  obtain ⟨sl, hv⟩ := h.val
  rw [h.text] at hp
  rcases h.kind with ⟨rfl, h2, h3, h4, h5⟩ | ⟨rfl, rfl, rfl, ha, _, hm, hm2, x, rfl, hx⟩
  · rcases h5 with ⟨rfl, rfl, ha, _⟩ | ⟨h6, h7, ⟨x, s, h8⟩, _⟩
    · have hc : cnt P = 0 := by
        rw [← wilds_enc P sl hv, ← h.text]
        have h9 := h.eqn
        rw [hz] at h9
        -- from off on: up to i plain, from i on no marks
        by_cases hoi : off ≤ i
        · have : L.drop off = (L.drop off).take (i - off) ++ L.drop i := by
            have := (List.take_append_drop (i - off) (L.drop off)).symm
            rwa [List.drop_drop, show off + (i - off) = i from by omega] at this
          rw [this, wilds_append, ← h9, wilds_plain]
          intro c hc
          obtain ⟨k, hk⟩ := List.getElem?_of_mem hc
          rw [List.getElem?_take] at hk
          split at hk
          · rw [List.getElem?_drop] at hk
            obtain ⟨y, h10, h11⟩ := h3 (off + k) (by omega) (by omega)
            rw [hk] at h10
            rw [Option.some.inj h10]; exact h11
          · cases hk
        · have h10 : L.drop i = (L.drop i).take (off - i) ++ L.drop off := by
            have := (List.take_append_drop (off - i) (L.drop i)).symm
            rwa [List.drop_drop, show i + (off - i) = off from by omega] at this
          rw [h10, wilds_append] at h9
          omega
      exact h.fill.text h.rep ha hv hc h.ne h2 h.ix p hp
    · exfalso
      have h9 := h.eqn
      have h10 := h.text
      rw [h6, List.drop_zero] at h10
      rw [h7, List.drop_zero, h10, h8] at h9
      rw [hz, enc, wilds_cons_wild _ (.inl rfl)] at h9
      omega
  · exact h.fill.param h.rep ha hx hm hm2 h.ix p (by rw [hp]; simp [enc])

/-- The rows above a new parameter's node: what the walk leaves of the node cur. -/
theorem cur_rows (h : InAt L n FIN cur .st d p0 h0 P off i np w) {q x : Bytes} {s3 : List Tok} (hC : ColonAt L P off i np q x s3) (qx : ByteArray) (hqx : qx.data.toList = q) :
    (0 < i → ∃ pc dc, pc.data.toList = p0.data.toList ++ q ∧ dc.arr = some (w.heap.size + 1, []) ∧ dc.nt < 2 ∧ dc.ix.data.toList = [] ∧ (∀ c ∈ p0.data.toList ++ q, plain c) ∧ (p0.data.toList ++ q).getLast? = some 47 ∧ (q = [] ∨ h0 = none) ∧
      ∃ ty, ((((w.setCell ⟨cur, 0, none⟩ (.string qx)).setCell ⟨cur, 6, none⟩ (.slice (some ⟨w.heap.size + 1, 0, none⟩) 1 1)).setCell ⟨cur, 1, none⟩ (.bool true)).heap[cur]? = some (.cells (vals .wc dc pc h0 1) ty (0, 0)))) ∧
    (¬ 0 < i → ∃ pc dc, pc.data.toList = p0.data.toList ++ q ∧ dc.arr = some (w.heap.size + 1, []) ∧ dc.nt < 2 ∧ dc.ix.data.toList = [] ∧ (∀ c ∈ p0.data.toList ++ q, plain c) ∧ (p0.data.toList ++ q).getLast? = some 47 ∧ (q = [] ∨ h0 = none) ∧
      ∃ ty, (((w.setCell ⟨cur, 6, none⟩ (.slice (some ⟨w.heap.size + 1, 0, none⟩) 1 1)).setCell ⟨cur, 1, none⟩ (.bool true)).heap[cur]? = some (.cells (vals .wc dc pc h0 1) ty (0, 0)))) := by
  obtain ⟨ty, e⟩ := h.rep.row
  rcases h.kind with ⟨_, hnt, _, _, h5⟩ | ⟨h1, _⟩
  · constructor
    · intro hi
      rcases h5 with ⟨rfl, rfl, ha, hnp⟩ | ⟨_, h7, _⟩
      · have hqne : q ≠ [] := by
          intro e0
          have := hC.p
          rw [e0] at this
          exact hnp x s3 this
        refine ⟨qx, { d with arr := some (w.heap.size + 1, []) }, by rw [hqx]; rfl, rfl, hnt, h.ix, hC.qp, hC.ql47 hqne, .inr rfl, ty, ?_⟩
        rw [row_set (row_set (row_set e _ _) _ _)]
        rfl
      · omega
    · intro hi
      rcases h5 with ⟨rfl, rfl, ha, hnp⟩ | ⟨h6, h7, hP, hpl, hl⟩
      · exfalso
        have h8 := hC.ql
        have hq : q = [] := List.eq_nil_of_length_eq_zero (by omega)
        have := hC.p
        rw [hq] at this
        exact hnp x s3 this
      · have h8 := hC.ql
        have hq : q = [] := List.eq_nil_of_length_eq_zero (by omega)
        subst hq
        refine ⟨p0, { d with arr := some (w.heap.size + 1, []) }, by simp, rfl, hnt, h.ix, by simpa using hpl, by simpa using hl, .inl rfl, ty, ?_⟩
        rw [row_set (row_set e _ _)]
        rfl
  · cases h1

/-- Behind a parameter there is more. -/
theorem InAt.more (h : InAt L n FIN cur .st d p0 h0 P off i np w) {q x : Bytes} {s3 : List Tok} (hC : ColonAt L P off i np q x s3) (hs3 : s3 ≠ []) {W1 : World} (hk1 : Kept [cur] w W1) (hsz : W1.heap.size = w.heap.size) {pc px : ByteArray} {dc : Dec}
    (hpc : pc.data.toList = p0.data.toList ++ q) (hdc : dc.arr = some (w.heap.size + 1, [])) (hnt : dc.nt < 2) (hix : dc.ix.data.toList = []) (hpl : ∀ c ∈ p0.data.toList ++ q, plain c) (hlast : (p0.data.toList ++ q).getLast? = some 47) (hq : q = [] ∨ h0 = none)
    (hrow : ∃ ty, W1.heap[cur]? = some (.cells (vals .wc dc pc h0 1) ty (0, 0))) (hpx : px.data.toList = 58 :: x) :
    ∃ d2, InAt L n FIN (w.heap.size + 1 + 1) .st d2 ⟨#[]⟩ none s3 (i + 1 + x.length) (i + 1) (np - 1)
      ((((W1.alloc (.cells #[.string px, .bool false, .int .u8 2, .int .u8 (np : Int), .int .u32 1, .string ⟨#[]⟩, .slice (some ⟨w.heap.size + 1 + 1 + 1, 0, none⟩) 1 1, .nilIface] 65)).alloc
        (.cells #[.pointer (some ⟨w.heap.size, 0, none⟩)] 76)).alloc
        (.cells #[.string ⟨#[]⟩, .bool false, .int .u8 0, .int .u8 ((np : Int) - 1), .int .u32 1, .string ⟨#[]⟩, .slice none 0 0, .nilIface] 65)).alloc
        (.cells #[.pointer (some ⟨w.heap.size + 1 + 1, 0, none⟩)] 76)) := by
  obtain ⟨N, hN⟩ : ∃ N, N = w.heap.size := ⟨_, rfl⟩
  rw [← hN] at hsz hdc ⊢
  obtain ⟨o1, ho1⟩ : ∃ o, o = Obj.cells #[.string px, .bool false, .int .u8 2, .int .u8 (np : Int), .int .u32 1, .string ⟨#[]⟩, .slice (some ⟨N + 1 + 1 + 1, 0, none⟩) 1 1, .nilIface] 65 := ⟨_, rfl⟩
  obtain ⟨o2, ho2⟩ : ∃ o, o = Obj.cells #[.pointer (some ⟨N, 0, none⟩)] 76 := ⟨_, rfl⟩
  obtain ⟨o3, ho3⟩ : ∃ o, o = Obj.cells #[.string ⟨#[]⟩, .bool false, .int .u8 0, .int .u8 ((np : Int) - 1), .int .u32 1, .string ⟨#[]⟩, .slice none 0 0, .nilIface] 65 := ⟨_, rfl⟩
  obtain ⟨o4, ho4⟩ : ∃ o, o = Obj.cells #[.pointer (some ⟨N + 1 + 1, 0, none⟩)] 76 := ⟨_, rfl⟩
  rw [← ho1, ← ho2, ← ho3, ← ho4]
  have hcur : cur < N := by rw [hN]; exact h.rep.blt
  have hnp := hC.np
  obtain ⟨W, hW⟩ : ∃ W, W = (((W1.alloc o1).alloc o2).alloc o3).alloc o4 := ⟨_, rfl⟩
  rw [← hW]
  have s1 : (W1.alloc o1).heap.size = N + 1 := by rw [alloc_size, hsz]
  have s2 : ((W1.alloc o1).alloc o2).heap.size = N + 2 := by rw [alloc_size, s1]
  have s3' : (((W1.alloc o1).alloc o2).alloc o3).heap.size = N + 3 := by rw [alloc_size, s2]
  have s4 : W.heap.size = N + 4 := by rw [hW, alloc_size, s3']
  have g0 : ∀ k, k < N → W.heap[k]? = W1.heap[k]? := fun k hk => by
    rw [hW, alloc_lt _ _ (by omega), alloc_lt _ _ (by omega), alloc_lt _ _ (by omega), alloc_lt _ _ (by omega)]
  have g1 : W.heap[N]? = some o1 := by
    rw [hW, alloc_lt _ _ (by omega), alloc_lt _ _ (by omega), alloc_lt _ _ (by omega), ← hsz]; exact alloc_at _ _
  have g2 : W.heap[N + 1]? = some o2 := by
    rw [hW, alloc_lt _ _ (by omega), alloc_lt _ _ (by omega), ← s1]; exact alloc_at _ _
  have g3 : W.heap[N + 2]? = some o3 := by
    rw [hW, alloc_lt _ _ (by omega), ← s2]; exact alloc_at _ _
  have g4 : W.heap[N + 3]? = some o4 := by
    rw [hW, ← s3']; exact alloc_at _ _
  have hkW : Kept [cur] w W := by rw [hW]; exact (((hk1.alloc _).alloc _).alloc _).alloc _
  obtain ⟨ty, hrow⟩ := hrow
  have hl : Laid w W cur N (N + 1) .wc h0 pc dc := ⟨hkW, ⟨ty, by rw [g0 cur hcur]; exact hrow⟩, hdc, by rw [g2, ho2]⟩
  have hf1 := Fill.down hN.symm hcur hl (by omega) (by rw [← hC.p, hN]; exact h.fill) hpc hpl hlast hq hnt hix
  have hl2 : Laid W W N (N + 2) (N + 2 + 1) .pm none px { nt := 0, mp := np, pr := 1, ix := ⟨#[]⟩, arr := some (N + 3, []) } :=
    ⟨Kept.refl _ _, ⟨65, by rw [g1, ho1]; rfl⟩, rfl, by rw [g4, ho4]⟩
  have hf2 := Fill.down2 (x := x) rfl hl2 (by omega) hf1 hpx hC.nm hC.sl hs3 (by show cnt s3 + 1 ≤ np; omega) (by show np ≤ 255; have := h.le20; omega) rfl
  refine ⟨{ nt := 0, mp := np - 1, pr := 1, ix := ⟨#[]⟩, arr := none }, ?_, rfl, hC.rest, hs3, ⟨false, hC.val⟩, by rw [hC.np1, hnp]; omega, by have := h.le20; omega, by have := hC.le; omega, hC.le, by rw [s4]; exact hf2, .inl ⟨rfl, by show 0 < 2; omega, fun j hj hj2 => by omega, ?_, .inl ⟨rfl, rfl, rfl, ?_⟩⟩⟩
  · refine ⟨?_, ?_⟩
    · intro m hm
      simp only [nodes, nodesL, List.mem_singleton] at hm
      subst hm
      refine ⟨⟨65, ?_⟩, rfl⟩
      rw [g3, ho3]
      have : ((np : Int) - 1) = ((np - 1 : Nat) : Int) := by omega
      rw [this]; rfl
    · simp [blocks_mk, own, blocksL, nodesL]
  · intro j hj hj2
    obtain ⟨y, h1, h2, _⟩ := hC.at_ (j - (i + 1)) (by omega)
    rw [show i + 1 + (j - (i + 1)) = j from by omega] at h1
    exact ⟨y, h1, h2⟩
  · intro y s e
    have := hC.sl
    rw [e] at this
    exact this

/-- The path ends with a parameter. -/
theorem InAt.pend (h : InAt L n FIN cur .st d p0 h0 P off i np w) {q x : Bytes} (hC : ColonAt L P off i np q x []) {W1 : World} (hk1 : Kept [cur] w W1) (hsz : W1.heap.size = w.heap.size) {pc : ByteArray} {dc : Dec}
    (hpc : pc.data.toList = p0.data.toList ++ q) (hdc : dc.arr = some (w.heap.size + 1, [])) (hnt : dc.nt < 2) (hix : dc.ix.data.toList = []) (hpl : ∀ c ∈ p0.data.toList ++ q, plain c) (hlast : (p0.data.toList ++ q).getLast? = some 47) (hq : q = [] ∨ h0 = none)
    (hrow : ∃ ty, W1.heap[cur]? = some (.cells (vals .wc dc pc h0 1) ty (0, 0))) :
    ∃ d2, InAt L n FIN w.heap.size .pm d2 ⟨#[]⟩ none [.par x] i (i + 1) (np - 1)
      ((W1.alloc (.cells #[.string ⟨#[]⟩, .bool false, .int .u8 2, .int .u8 (np : Int), .int .u32 1, .string ⟨#[]⟩, .slice none 0 0, .nilIface] 65)).alloc
        (.cells #[.pointer (some ⟨w.heap.size, 0, none⟩)] 76)) := by
  obtain ⟨N, hN⟩ : ∃ N, N = w.heap.size := ⟨_, rfl⟩
  rw [← hN] at hsz hdc ⊢
  obtain ⟨o1, ho1⟩ : ∃ o, o = Obj.cells #[.string ⟨#[]⟩, .bool false, .int .u8 2, .int .u8 (np : Int), .int .u32 1, .string ⟨#[]⟩, .slice none 0 0, .nilIface] 65 := ⟨_, rfl⟩
  obtain ⟨o2, ho2⟩ : ∃ o, o = Obj.cells #[.pointer (some ⟨N, 0, none⟩)] 76 := ⟨_, rfl⟩
  rw [← ho1, ← ho2]
  have hcur : cur < N := by rw [hN]; exact h.rep.blt
  have hnp : np = 1 := by have := hC.np; simpa [cnt] using this
  obtain ⟨W, hW⟩ : ∃ W, W = (W1.alloc o1).alloc o2 := ⟨_, rfl⟩
  rw [← hW]
  have s1 : (W1.alloc o1).heap.size = N + 1 := by rw [alloc_size, hsz]
  have s2 : W.heap.size = N + 2 := by rw [hW, alloc_size, s1]
  have g0 : ∀ k, k < N → W.heap[k]? = W1.heap[k]? := fun k hk => by rw [hW, alloc_lt _ _ (by omega), alloc_lt _ _ (by omega)]
  have g1 : W.heap[N]? = some o1 := by rw [hW, alloc_lt _ _ (by omega), ← hsz]; exact alloc_at _ _
  have g2 : W.heap[N + 1]? = some o2 := by rw [hW, ← s1]; exact alloc_at _ _
  have hkW : Kept [cur] w W := by rw [hW]; exact (hk1.alloc _).alloc _
  obtain ⟨ty, hrow⟩ := hrow
  have hl : Laid w W cur N (N + 1) .wc h0 pc dc := ⟨hkW, ⟨ty, by rw [g0 cur hcur]; exact hrow⟩, hdc, by rw [g2, ho2]⟩
  have hf1 := Fill.down (s3 := []) hN.symm hcur hl (by omega) (by rw [← hC.p, hN]; exact h.fill) hpc hpl hlast hq hnt hix
  have hrest := hC.rest
  have hx1 := hC.x_
  have hxl : (L.drop i).length = x.length + 1 := by
    have h1 := congrArg List.length hrest
    simp only [List.length_drop, enc, List.length_nil] at h1 ⊢
    have := hC.le
    omega
  rw [List.take_of_length_le (by omega)] at hx1
  refine ⟨{ nt := 0, mp := np, pr := 1, ix := ⟨#[]⟩, arr := none }, ?_, rfl, by rw [hx1]; simp [enc], by simp, ⟨true, rfl, hC.nm, trivial, trivial⟩, by rw [hC.np1, hnp]; rfl, by omega, by have := hC.le; omega, by have := hC.le; omega, by rw [s2]; exact hf1, .inr ⟨rfl, rfl, rfl, rfl, by omega, by show 1 ≤ np; omega, by show np ≤ 255; omega, x, rfl, hC.nm⟩⟩
  refine ⟨?_, ?_⟩
  · intro m hm
    simp only [nodes, nodesL, List.mem_singleton] at hm
    subst hm
    exact ⟨⟨65, by rw [g1, ho1]; rfl⟩, rfl⟩
  · simp [blocks_mk, own, blocksL, nodesL]

/-- All that is left is laid. -/
theorem InAt.star (h : InAt L n FIN cur .st d ⟨#[]⟩ none P off i np w) {q z : Bytes} (hC : StarAt L P off i np q z) {W1 : World} (hk1 : Kept [cur] w W1) (hsz : W1.heap.size = w.heap.size) {pc pz ix : ByteArray} {mp : Nat} (hpc : pc.data.toList = q) (hpz : pz.data.toList = 47 :: 42 :: z)
    (hix : ix.data.toList = [47]) (hnt : d.nt < 2) (hrow : ∃ ty, W1.heap[cur]? = some (.cells (vals .st { d with mp := mp, ix := ix, arr := some (w.heap.size + 1, []) } pc none 1) ty (0, 0))) :
    FIN ((((W1.alloc (.cells #[.string ⟨#[]⟩, .bool true, .int .u8 3, .int .u8 1, .int .u32 1, .string ⟨#[]⟩, .slice (some ⟨w.heap.size + 1 + 1 + 1, 0, none⟩) 1 1, .nilIface] 65)).alloc
        (.cells #[.pointer (some ⟨w.heap.size, 0, none⟩)] 76)).alloc
        (.cells #[.string pz, .bool false, .int .u8 3, .int .u8 1, .int .u32 1, .string ⟨#[]⟩, .slice none 0 0, hV (some n)] 65)).alloc
        (.cells #[.pointer (some ⟨w.heap.size + 1 + 1, 0, none⟩)] 76)) := by
  obtain ⟨N, hN⟩ : ∃ N, N = w.heap.size := ⟨_, rfl⟩
  rw [← hN] at hsz hrow ⊢
  obtain ⟨o1, ho1⟩ : ∃ o, o = Obj.cells #[.string ⟨#[]⟩, .bool true, .int .u8 3, .int .u8 1, .int .u32 1, .string ⟨#[]⟩, .slice (some ⟨N + 1 + 1 + 1, 0, none⟩) 1 1, .nilIface] 65 := ⟨_, rfl⟩
  obtain ⟨o2, ho2⟩ : ∃ o, o = Obj.cells #[.pointer (some ⟨N, 0, none⟩)] 76 := ⟨_, rfl⟩
  obtain ⟨o3, ho3⟩ : ∃ o, o = Obj.cells #[.string pz, .bool false, .int .u8 3, .int .u8 1, .int .u32 1, .string ⟨#[]⟩, .slice none 0 0, hV (some n)] 65 := ⟨_, rfl⟩
  obtain ⟨o4, ho4⟩ : ∃ o, o = Obj.cells #[.pointer (some ⟨N + 1 + 1, 0, none⟩)] 76 := ⟨_, rfl⟩
  rw [← ho1, ← ho2, ← ho3, ← ho4]
  have hcur : cur < N := by rw [hN]; exact h.rep.blt
  obtain ⟨W, hW⟩ : ∃ W, W = (((W1.alloc o1).alloc o2).alloc o3).alloc o4 := ⟨_, rfl⟩
  rw [← hW]
  have s1 : (W1.alloc o1).heap.size = N + 1 := by rw [alloc_size, hsz]
  have s2 : ((W1.alloc o1).alloc o2).heap.size = N + 2 := by rw [alloc_size, s1]
  have s3' : (((W1.alloc o1).alloc o2).alloc o3).heap.size = N + 3 := by rw [alloc_size, s2]
  have g0 : ∀ k, k < N → W.heap[k]? = W1.heap[k]? := fun k hk => by
    rw [hW, alloc_lt _ _ (by omega), alloc_lt _ _ (by omega), alloc_lt _ _ (by omega), alloc_lt _ _ (by omega)]
  have g1 : W.heap[N]? = some o1 := by
    rw [hW, alloc_lt _ _ (by omega), alloc_lt _ _ (by omega), alloc_lt _ _ (by omega), ← hsz]; exact alloc_at _ _
  have g2 : W.heap[N + 1]? = some o2 := by
    rw [hW, alloc_lt _ _ (by omega), alloc_lt _ _ (by omega), ← s1]; exact alloc_at _ _
  have g3 : W.heap[N + 2]? = some o3 := by
    rw [hW, alloc_lt _ _ (by omega), ← s2]; exact alloc_at _ _
  have g4 : W.heap[N + 3]? = some o4 := by
    rw [hW, ← s3']; exact alloc_at _ _
  have hkW : Kept [cur] w W := by rw [hW]; exact (((hk1.alloc _).alloc _).alloc _).alloc _
  obtain ⟨ty, hrow⟩ := hrow
  have hl : Laid w W cur N (N + 1) .st none pc { d with mp := mp, ix := ix, arr := some (N + 1, []) } := ⟨hkW, ⟨ty, by rw [g0 cur hcur]; exact hrow⟩, rfl, by rw [g2, ho2]⟩
  have hl1 : Laid W W N (N + 2) (N + 3) .ch none ⟨#[]⟩ { nt := 0, mp := 1, pr := 1, ix := ⟨#[]⟩, arr := some (N + 3, []) } :=
    ⟨Kept.refl _ _, ⟨65, by rw [g1, ho1]; rfl⟩, rfl, by rw [g4, ho4]⟩
  exact Fill.catch hN.symm hcur hl hl1 (d2 := { nt := 0, mp := 1, pr := 1, ix := ⟨#[]⟩, arr := none }) ⟨65, by rw [g3, ho3]; rfl⟩ rfl (by rw [← hC.p, hN]; exact h.fill) hpc hC.qp hnt hix rfl hC.nm hpz rfl rfl

end Go.Proofs.Ytcobbbbnmepmfaa
