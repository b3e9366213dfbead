/- incrementChildPrio leaves the tree in order. -/
import Derived.Test.YtcobbbbnmepmfaaRoPr
namespace Go.Proofs.Ytcobbbbnmepmfaa
open Go Go.RowKit Go.Lib Tr

section
variable {w w' : World} {tag : Tag} {b : Nat} {d : Dec} {p : ByteArray} {h : Option Nat} {A B C : List HT} {k : HT} {pr : Int} {ix : ByteArray} {i1 i2 i3 : List UInt8} {c : UInt8}

theorem ix_move (h4 : d.ix.data.toList = (A ++ (B ++ k :: C)).map key) (e1 : d.ix.data.toList = i1 ++ (i2 ++ c :: i3)) (e2 : ix.data.toList = i1 ++ (c :: (i2 ++ i3))) (l1 : i1.length = A.length) (l2 : i2.length = B.length) :
    ix.data.toList = (A ++ k.setPr pr :: (B ++ C)).map key := by
  rw [e1] at h4
  simp only [List.map_append, List.map_cons] at h4
  obtain ⟨a1, a2⟩ := List.append_inj h4 (by simpa using l1)
  obtain ⟨b1, b2⟩ := List.append_inj a2 (by simpa using l2)
  obtain ⟨c1, c2⟩ := List.cons.inj b2
  rw [e2, a1, b1, c1, c2]
  simp [setPr_key]

theorem RL_move : (RL (A ++ k.setPr pr :: (B ++ C))).Perm (RL (A ++ (B ++ k :: C))) := by
  simp only [RL_append, RL_cons, setPr_R]
  exact List.Perm.append_left _ (List.perm_append_comm_assoc _ _ _)

theorem mem_move {x : HT} (hx : x ∈ A ++ k.setPr pr :: (B ++ C)) : x = k.setPr pr ∨ x ∈ A ++ (B ++ k :: C) := by
  simp only [List.mem_append, List.mem_cons] at hx ⊢
  rcases hx with h1 | h1 | h1 | h1
  · exact .inr (.inl h1)
  · exact .inl h1
  · exact .inr (.inr (.inl h1))
  · exact .inr (.inr (.inr (.inr h1)))

theorem blocks_move {d' : Dec} (ha : d'.arr = d.arr) (x : Nat) : x ∈ blocks (.mk tag b d' p h (A ++ k.setPr pr :: (B ++ C))) ↔ x ∈ blocks (.mk tag b d p h (A ++ (B ++ k :: C))) := by
  have ho : own (.mk tag b d' p h (A ++ k.setPr pr :: (B ++ C))) = own (.mk tag b d p h (A ++ (B ++ k :: C))) := by
    unfold own
    simp only [ha]
  rw [blocks_mk, blocks_mk, ho]
  simp only [blocksL_append, blocksL_cons, setPr_blocks, List.mem_append]
  constructor
  · rintro (h1 | h1 | h1 | h1 | h1)
    · exact .inl h1
    · exact .inr (.inl h1)
    · exact .inr (.inr (.inr (.inl h1)))
    · exact .inr (.inr (.inl h1))
    · exact .inr (.inr (.inr (.inr h1)))
  · rintro (h1 | h1 | h1 | h1 | h1)
    · exact .inl h1
    · exact .inr (.inl h1)
    · exact .inr (.inr (.inr (.inl h1)))
    · exact .inr (.inr (.inl h1))
    · exact .inr (.inr (.inr (.inr h1)))

theorem Like.prio (hw : Wf (.mk .st b d p h (A ++ (B ++ k :: C)))) (hr : Rep w' (.mk .st b { d with ix := ix } p h (A ++ k.setPr pr :: (B ++ C)))) (hk : Kept (blocks (.mk .st b d p h (A ++ (B ++ k :: C)))) w w')
    (e1 : d.ix.data.toList = i1 ++ (i2 ++ c :: i3)) (e2 : ix.data.toList = i1 ++ (c :: (i2 ++ i3))) (l1 : i1.length = A.length) (l2 : i2.length = B.length) :
    Like w (.mk .st b d p h (A ++ (B ++ k :: C))) w' (.mk .st b { d with ix := ix } p h (A ++ k.setPr pr :: (B ++ C))) := by
  have hmk : k ∈ A ++ (B ++ k :: C) := by simp
  refine ⟨⟨rfl, rfl, id, fun _ => rfl⟩, hr, Wf.of_top ?_ ?_, ?_, hk, fun x hx => .inl ((blocks_move rfl x).1 hx)⟩
  · obtain ⟨h1, h2, h3, h4, h5, h6, h7⟩ := hw.top
    refine ⟨h1, h2, ?_, ix_move h4 e1 e2 l1 l2, ?_, fun _ => by simp, fun e => ?_⟩
    · intro x hx
      rcases mem_move hx with rfl | hx
      · rw [setPr_tag]; exact h3 k hmk
      · exact h3 x hx
    · refine List.Perm.nodup (l := (A ++ (B ++ k :: C)).map key) ?_ h5
      simp only [List.map_append, List.map_cons, setPr_key]
      refine List.Perm.append_left _ ?_
      exact List.perm_middle
    · obtain ⟨h8, k', h9, h10⟩ := h7 e
      have hl := congrArg List.length h9
      simp only [List.length_append, List.length_cons, List.length_nil] at hl
      have hA : A = [] := List.length_eq_zero_iff.1 (by omega)
      have hB : B = [] := List.length_eq_zero_iff.1 (by omega)
      have hC : C = [] := List.length_eq_zero_iff.1 (by omega)
      subst hA hB hC
      have : k = k' := by simpa using h9
      subst this
      exact ⟨h8, _, rfl, by rw [setPr_tag]; exact h10⟩
  · intro x hx
    rcases mem_move hx with rfl | hx
    · exact setPr_wf k pr (hw.kid (t := .mk .st b d p h (A ++ (B ++ k :: C))) hmk)
    · exact hw.kid (t := .mk .st b d p h (A ++ (B ++ k :: C))) hx
  · rw [R_mk, R_mk]
    exact (List.Perm.append_left (endR h) RL_move).map _

end
end Go.Proofs.Ytcobbbbnmepmfaa
