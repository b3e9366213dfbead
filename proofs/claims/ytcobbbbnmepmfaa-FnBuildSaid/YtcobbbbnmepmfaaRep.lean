/- How a tree of nodes stays, or turns at one place, when the world turns. -/
import Derived.Test.YtcobbbbnmepmfaaTree
namespace Go.Proofs.Ytcobbbbnmepmfaa.Tr
open Go Go.RowKit

theorem nodesL_append : ∀ (A B : List HT), nodesL (A ++ B) = nodesL A ++ nodesL B
  | [], B => rfl
  | k :: A, B => by simp [nodesL, nodesL_append A B]
theorem nodesL_cons (k : HT) (B : List HT) : nodesL (k :: B) = nodes k ++ nodesL B := rfl
theorem RL_append : ∀ (A B : List HT), RL (A ++ B) = RL A ++ RL B
  | [], B => rfl
  | k :: A, B => by simp [RL, RL_append A B]
theorem RL_cons (k : HT) (B : List HT) : RL (k :: B) = R k ++ RL B := rfl

theorem mem_nodes_self (t : HT) : t ∈ nodes t := by cases t; simp [nodes]
theorem mem_nodesL {k : HT} {l : List HT} (h : k ∈ l) {n : HT} (hn : n ∈ nodes k) : n ∈ nodesL l := by
  obtain ⟨A, B, rfl⟩ := List.append_of_mem h
  rw [nodesL_append, nodesL_cons]
  simp [hn]
theorem mem_nodes_kid {t k : HT} (h : k ∈ t.kids) {n : HT} (hn : n ∈ nodes k) : n ∈ nodes t := by
  cases t with
  | mk tag b d p hh kids =>
    unfold nodes
    exact List.mem_cons_of_mem _ (mem_nodesL h hn)

theorem blocks_mk (tag : Tag) (b : Nat) (d : Dec) (p : ByteArray) (h : Option Nat) (kids : List HT) : blocks (.mk tag b d p h kids) = own (.mk tag b d p h kids) ++ blocksL kids := by
  simp [blocks, nodes, blocksL]
theorem blocksL_append (A B : List HT) : blocksL (A ++ B) = blocksL A ++ blocksL B := by simp [blocksL, nodesL_append]
theorem blocksL_cons (k : HT) (B : List HT) : blocksL (k :: B) = blocks k ++ blocksL B := by simp [blocksL, nodesL_cons, blocks]
theorem blocksL_nil : blocksL [] = [] := rfl
theorem mem_blocks_self (t : HT) : t.b ∈ blocks t := by
  cases t with
  | mk tag b d p h kids =>
    rw [blocks_mk]
    simp only [own, HT.b]
    split <;> simp
theorem mem_blocksL {k : HT} {l : List HT} (h : k ∈ l) {x : Nat} (hx : x ∈ blocks k) : x ∈ blocksL l := by
  obtain ⟨A, B, rfl⟩ := List.append_of_mem h
  rw [blocksL_append, blocksL_cons]
  simp [hx]
theorem mem_blocks_kid {t k : HT} (h : k ∈ t.kids) {x : Nat} (hx : x ∈ blocks k) : x ∈ blocks t := by
  cases t with
  | mk tag b d p hh kids =>
    rw [blocks_mk]
    exact List.mem_append.2 (.inr (mem_blocksL h hx))

theorem NodeOk.lt {w : World} {n : HT} (h : NodeOk w n) : ∀ x ∈ own n, x < w.heap.size := by
  cases n with
  | mk tag b d p hh kids =>
    obtain ⟨⟨ty, h1⟩, h2⟩ := h
    intro x hx
    unfold own at hx
    cases ha : d.arr with
    | none =>
      simp only [ha] at hx
      obtain rfl := List.mem_singleton.1 hx
      exact (Array.getElem?_eq_some_iff.1 h1).1
    | some q =>
      obtain ⟨g, sp⟩ := q
      simp only [ha] at hx h2
      rcases List.mem_cons.1 hx with rfl | hx
      · exact (Array.getElem?_eq_some_iff.1 h1).1
      · obtain rfl := List.mem_singleton.1 hx
        exact (Array.getElem?_eq_some_iff.1 h2.1).1

theorem NodeOk.same {w w' : World} {n : HT} (h : NodeOk w n) (he : ∀ x ∈ own n, w'.heap[x]? = w.heap[x]?) : NodeOk w' n := by
  cases n with
  | mk tag b d p hh kids =>
    obtain ⟨⟨ty, h1⟩, h2⟩ := h
    unfold own at he
    cases ha : d.arr with
    | none =>
      simp only [ha] at he h2
      exact ⟨⟨ty, by rw [he b (by simp)]; exact h1⟩, by simp only [ha]; exact h2⟩
    | some q =>
      obtain ⟨g, sp⟩ := q
      simp only [ha] at he h2
      exact ⟨⟨ty, by rw [he b (by simp)]; exact h1⟩, by simp only [ha]; exact ⟨by rw [he g (by simp)]; exact h2.1, h2.2⟩⟩

theorem Rep.lt {w : World} {t : HT} (h : Rep w t) : ∀ x ∈ blocks t, x < w.heap.size := by
  intro x hx
  obtain ⟨n, hn, hx⟩ := List.mem_flatMap.1 hx
  exact (h.ok n hn).lt x hx

theorem Rep.same {w w' : World} {t : HT} (h : Rep w t) (he : ∀ x ∈ blocks t, w'.heap[x]? = w.heap[x]?) : Rep w' t :=
  ⟨fun n hn => (h.ok n hn).same fun x hx => he x (List.mem_flatMap.2 ⟨n, hn, hx⟩), h.nd⟩

theorem Rep.kid {w : World} {t k : HT} (h : Rep w t) (hk : k ∈ t.kids) : Rep w k := by
  refine ⟨fun n hn => h.ok n (mem_nodes_kid hk hn), ?_⟩
  cases t with
  | mk tag b d p hh kids =>
    have := h.nd
    rw [blocks_mk] at this
    have h2 := (List.nodup_append.1 this).2.1
    obtain ⟨A, B, he⟩ := List.append_of_mem hk
    have he' : kids = A ++ k :: B := he
    rw [he', blocksL_append, blocksL_cons] at h2
    exact (List.nodup_append.1 (List.nodup_append.1 h2).2.1).1

theorem Wf.kid {t k : HT} (h : Wf t) (hk : k ∈ t.kids) : Wf k := fun n hn => h n (mem_nodes_kid hk hn)
theorem Wf.top {t : HT} (h : Wf t) : Shape t := h t (mem_nodes_self t)

/-! ### The node's cells -/

theorem Rep.node {w : World} {t : HT} (h : Rep w t) : NodeOk w t := h.ok t (mem_nodes_self t)

theorem Rep.row {w : World} {tag : Tag} {b : Nat} {d : Dec} {p : ByteArray} {h : Option Nat} {kids : List HT} (hr : Rep w (.mk tag b d p h kids)) :
    ∃ ty, w.heap[b]? = some (.cells (vals tag d p h kids.length) ty (0, 0)) := hr.node.1

theorem cell_of_row8 {w : World} {b : Nat} {c : Array Value} {ty : TypeId} (h : w.heap[b]? = some (.cells c ty (0, 0))) (i : Nat) : w.cell? ⟨b, i, none⟩ = c[i]? := by simp [World.cell?, h]
theorem free_of_row8 {w : World} {b : Nat} {c : Array Value} {ty : TypeId} (h : w.heap[b]? = some (.cells c ty (0, 0))) (i : Nat) : w.frozen? ⟨b, i, none⟩ = false := by simp [World.frozen?, h]

section
variable {w : World} {tag : Tag} {b : Nat} {d : Dec} {p : ByteArray} {h : Option Nat} {kids : List HT}
theorem Rep.c0 (hr : Rep w (.mk tag b d p h kids)) : w.cell? ⟨b, 0, none⟩ = some (.string p) := by obtain ⟨ty, e⟩ := hr.row; rw [cell_of_row8 e]; rfl
theorem Rep.c1 (hr : Rep w (.mk tag b d p h kids)) : w.cell? ⟨b, 1, none⟩ = some (.bool tag.wild) := by obtain ⟨ty, e⟩ := hr.row; rw [cell_of_row8 e]; rfl
theorem Rep.c2 (hr : Rep w (.mk tag b d p h kids)) : w.cell? ⟨b, 2, none⟩ = some (.int .u8 (tag.nt d.nt : Nat)) := by obtain ⟨ty, e⟩ := hr.row; rw [cell_of_row8 e]; rfl
theorem Rep.c3 (hr : Rep w (.mk tag b d p h kids)) : w.cell? ⟨b, 3, none⟩ = some (.int .u8 (d.mp : Nat)) := by obtain ⟨ty, e⟩ := hr.row; rw [cell_of_row8 e]; rfl
theorem Rep.c4 (hr : Rep w (.mk tag b d p h kids)) : w.cell? ⟨b, 4, none⟩ = some (.int .u32 d.pr) := by obtain ⟨ty, e⟩ := hr.row; rw [cell_of_row8 e]; rfl
theorem Rep.c5 (hr : Rep w (.mk tag b d p h kids)) : w.cell? ⟨b, 5, none⟩ = some (.string d.ix) := by obtain ⟨ty, e⟩ := hr.row; rw [cell_of_row8 e]; rfl
theorem Rep.c6 (hr : Rep w (.mk tag b d p h kids)) : w.cell? ⟨b, 6, none⟩ = some (arrV d.arr kids.length) := by obtain ⟨ty, e⟩ := hr.row; rw [cell_of_row8 e]; rfl
theorem Rep.c7 (hr : Rep w (.mk tag b d p h kids)) : w.cell? ⟨b, 7, none⟩ = some (hV h) := by obtain ⟨ty, e⟩ := hr.row; rw [cell_of_row8 e]; rfl
theorem Rep.free (hr : Rep w (.mk tag b d p h kids)) (i : Nat) : w.frozen? ⟨b, i, none⟩ = false := by obtain ⟨ty, e⟩ := hr.row; exact free_of_row8 e i
theorem Rep.blt (hr : Rep w (.mk tag b d p h kids)) : b < w.heap.size := by obtain ⟨ty, e⟩ := hr.row; exact (Array.getElem?_eq_some_iff.1 e).1
end

/-! ### A store into a node's own cells -/

theorem row_set {w : World} {b : Nat} {c : Array Value} {ty : TypeId} (h : w.heap[b]? = some (.cells c ty (0, 0))) (i : Nat) (v : Value) :
    (w.setCell ⟨b, i, none⟩ v).heap[b]? = some (.cells (c.setIfInBounds i v) ty (0, 0)) := by
  simp [World.setCell, Array.getElem?_modify, h]

/-- The same node with other decorations, path, handle: told by its row. -/
theorem Rep.setRow {w w' : World} {tag tag' : Tag} {b : Nat} {d d' : Dec} {p p' : ByteArray} {h h' : Option Nat} {kids : List HT} (hr : Rep w (.mk tag b d p h kids)) (ha : d'.arr = d.arr)
    (hrow : ∃ ty, w'.heap[b]? = some (.cells (vals tag' d' p' h' kids.length) ty (0, 0))) (hk : ∀ x, x ≠ b → w'.heap[x]? = w.heap[x]?) : Rep w' (.mk tag' b d' p' h' kids) := by
  have hnd := hr.nd
  rw [blocks_mk] at hnd
  have hown : own (.mk tag' b d' p' h' kids) = own (.mk tag b d p h kids) := by simp [own, ha]
  have hbn : b ∈ own (.mk tag b d p h kids) := by unfold own; simp only; split <;> simp
  have hne : ∀ x ∈ blocksL kids, x ≠ b := fun x hx e => (List.nodup_append.1 hnd).2.2 b hbn x hx e.symm
  refine ⟨?_, by rw [blocks_mk, hown]; exact hnd⟩
  intro n hn
  unfold nodes at hn
  rcases List.mem_cons.1 hn with rfl | hn
  · refine ⟨hrow, ?_⟩
    have h2 := hr.node.2
    have h1 := (List.nodup_append.1 hnd).1
    rw [ha]
    cases harr : d.arr with
    | none => simp only [harr] at h2; exact h2
    | some q =>
      obtain ⟨g, sp⟩ := q
      simp only [harr] at h2
      unfold own at h1
      simp only [harr] at h1
      have hg : g ≠ b := by
        intro e; subst e; simp at h1
      exact ⟨by rw [hk g hg]; exact h2.1, h2.2⟩
  · have hn' : n ∈ nodes (.mk tag b d p h kids) := by unfold nodes; exact List.mem_cons_of_mem _ hn
    refine (hr.ok n hn').same fun x hx => hk x (hne x ?_)
    exact List.mem_flatMap.2 ⟨n, hn, hx⟩

/-! ### A child's place -/

/-- A child is another tree in its place; the rest is as it was. -/
theorem Rep.swap {w w' : World} {tag : Tag} {b : Nat} {d : Dec} {p : ByteArray} {h : Option Nat} {A B : List HT} {k k' : HT} (hr : Rep w (.mk tag b d p h (A ++ k :: B))) (hb : k'.b = k.b) (hk' : Rep w' k')
    (hkeep : Kept (blocks k) w w') (hnew : ∀ x ∈ blocks k', x ∈ blocks k ∨ w.heap.size ≤ x) : Rep w' (.mk tag b d p h (A ++ k' :: B)) := by
  have hlt := hr.lt
  have hnd := hr.nd
  rw [blocks_mk, blocksL_append, blocksL_cons] at hnd hlt
  obtain ⟨n1, n2, n3⟩ := List.nodup_append.1 hnd
  obtain ⟨m1, m2, m3⟩ := List.nodup_append.1 n2
  obtain ⟨l1, l2, l3⟩ := List.nodup_append.1 m2
  have hown : own (.mk tag b d p h (A ++ k' :: B)) = own (.mk tag b d p h (A ++ k :: B)) := rfl
  -- no block of the rest is one of the child's
  have ho : ∀ x ∈ own (.mk tag b d p h (A ++ k :: B)), x ∉ blocks k := fun x hx hxk => n3 x hx x (by simp [hxk]) rfl
  have hA : ∀ x ∈ blocksL A, x ∉ blocks k := fun x hx hxk => m3 x hx x (by simp [hxk]) rfl
  have hB : ∀ x ∈ blocksL B, x ∉ blocks k := fun x hx hxk => l3 x hxk x hx rfl
  have hlo : ∀ x ∈ own (.mk tag b d p h (A ++ k :: B)), x < w.heap.size := fun x hx => hlt x (by simp [hx])
  have hlA : ∀ x ∈ blocksL A, x < w.heap.size := fun x hx => hlt x (by simp [hx])
  have hlB : ∀ x ∈ blocksL B, x < w.heap.size := fun x hx => hlt x (by simp [hx])
  refine ⟨?_, ?_⟩
  · intro n hn
    unfold nodes at hn
    rw [nodesL_append, nodesL_cons] at hn
    rcases List.mem_cons.1 hn with rfl | hn
    · have h1 := hr.node
      have h2 : NodeOk w (.mk tag b d p h (A ++ k' :: B)) := by
        refine ⟨by simpa using h1.1, ?_⟩
        have := h1.2
        cases harr : d.arr with
        | none => simp only [harr] at this; simp at this
        | some q =>
          obtain ⟨g, sp⟩ := q
          simp only [harr] at this ⊢
          have hp : ptr k' = ptr k := by simp [ptr, hb]
          simpa [hp] using this
      exact h2.same fun x hx => hkeep.block x (hlo x hx) (ho x hx)
    · rcases List.mem_append.1 hn with hn | hn
      · have hn' : n ∈ nodes (.mk tag b d p h (A ++ k :: B)) := by unfold nodes; rw [nodesL_append, nodesL_cons]; simp [hn]
        refine (hr.ok n hn').same fun x hx => ?_
        have hxA : x ∈ blocksL A := List.mem_flatMap.2 ⟨n, hn, hx⟩
        exact hkeep.block x (hlA x hxA) (hA x hxA)
      · rcases List.mem_append.1 hn with hn | hn
        · exact hk'.ok n hn
        · have hn' : n ∈ nodes (.mk tag b d p h (A ++ k :: B)) := by unfold nodes; rw [nodesL_append, nodesL_cons]; simp [hn]
          refine (hr.ok n hn').same fun x hx => ?_
          have hxB : x ∈ blocksL B := List.mem_flatMap.2 ⟨n, hn, hx⟩
          exact hkeep.block x (hlB x hxB) (hB x hxB)
  · rw [blocks_mk, blocksL_append, blocksL_cons, hown]
    refine List.nodup_append.2 ⟨n1, List.nodup_append.2 ⟨m1, List.nodup_append.2 ⟨hk'.nd, l2, ?_⟩, ?_⟩, ?_⟩
    · intro x hx y hy e
      subst e
      rcases hnew x hx with h1 | h1
      · exact l3 x h1 x hy rfl
      · have := hlB x hy; omega
    · intro x hx y hy e
      subst e
      rcases List.mem_append.1 hy with hy | hy
      · rcases hnew x hy with h1 | h1
        · exact m3 x hx x (by simp [h1]) rfl
        · have := hlA x hx; omega
      · exact m3 x hx x (by simp [hy]) rfl
    · intro x hx y hy e
      subst e
      rcases List.mem_append.1 hy with hy | hy
      · exact n3 x hx x (by simp [hy]) rfl
      · rcases List.mem_append.1 hy with hy | hy
        · rcases hnew x hy with h1 | h1
          · exact n3 x hx x (by simp [h1]) rfl
          · have := hlo x hx; omega
        · exact n3 x hx x (by simp [hy]) rfl

theorem Kept.refl (S : List Nat) (w : World) : Kept S w w := ⟨rfl, rfl, rfl, Nat.le_refl _, fun _ _ _ => rfl⟩
theorem Kept.trans {S S' : List Nat} {a b c : World} (h : Kept S a b) (k : Kept S' b c) (hs : ∀ x ∈ S', x ∈ S ∨ a.heap.size ≤ x) : Kept S a c :=
  ⟨k.os.trans h.os, k.tape.trans h.tape, k.output.trans h.output, Nat.le_trans h.size k.size, fun x hx hn => by
    refine (k.block x (Nat.lt_of_lt_of_le hx h.size) (fun hx' => ?_)).trans (h.block x hx hn)
    rcases hs x hx' with h1 | h1
    · exact hn h1
    · omega⟩
theorem Kept.mono {S S' : List Nat} {a b : World} (h : Kept S a b) (hs : ∀ x ∈ S, x ∈ S' ∨ a.heap.size ≤ x) : Kept S' a b :=
  ⟨h.os, h.tape, h.output, h.size, fun x hx hn => h.block x hx fun hx' => by
    rcases hs x hx' with h1 | h1
    · exact hn h1
    · omega⟩
theorem Kept.setCell {S : List Nat} {a b : World} (h : Kept S a b) {p : Addr} (hp : p.block ∈ S ∨ a.heap.size ≤ p.block) (v : Value) : Kept S a (b.setCell p v) :=
  h.trans (S' := [p.block]) ⟨rfl, rfl, rfl, by simp [World.setCell], fun k _ hn => Below.heap_setCell _ _ _ _ (by simpa using hn)⟩ (by intro x hx; obtain rfl := List.mem_singleton.1 hx; exact hp)
theorem Kept.alloc {S : List Nat} {a b : World} (h : Kept S a b) (o : Obj) : Kept S a (b.alloc o) :=
  h.trans (S' := []) ⟨rfl, rfl, rfl, by simp, fun k hk _ => Below.heap_alloc _ _ _ hk⟩ (by intro x hx; cases hx)
theorem Kept.drew {S : List Nat} {a b : World} (h : Kept S a b) : Kept S a b.drew := ⟨h.os, h.tape, h.output, h.size, h.block⟩
theorem Kept.drewN {S : List Nat} {a b : World} (h : Kept S a b) (n : Nat) : Kept S a (b.drewN n) := ⟨h.os, h.tape, h.output, h.size, h.block⟩
theorem Kept.below {S : List Nat} {a b : World} (h : Kept S a b) {B : Nat} (hS : ∀ x ∈ S, B ≤ x) (hB : B ≤ a.heap.size) : Below B a b :=
  ⟨h.os, h.tape, h.output, h.size, fun k hk => h.block k (by omega) (fun hx => by have := hS k hx; omega)⟩

end Go.Proofs.Ytcobbbbnmepmfaa.Tr
