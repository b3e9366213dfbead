/- A child's priority is raised: the tree is in order as before. -/
import Derived.Test.YtcobbbbnmepmfaaRoEnd
namespace Go.Proofs.Ytcobbbbnmepmfaa
open Go Go.RowKit Go.Lib Tr

section
variable {w : World} {tag : Tag} {b : Nat} {d : Dec} {p : ByteArray} {h : Option Nat} {A B : List HT} {k : HT}

theorem map_setPr (A B : List HT) (k : HT) (v : Int) : (A ++ k.setPr v :: B).map key = (A ++ k :: B).map key := by
  simp [setPr_key]

theorem RL_setPr (A B : List HT) (k : HT) (v : Int) : RL (A ++ k.setPr v :: B) = RL (A ++ k :: B) := by
  rw [RL_append, RL_append, RL_cons, RL_cons, setPr_R]

theorem one_of (A B : List HT) (k k' : HT) (h : A ++ k :: B = [k']) : A = [] ∧ B = [] ∧ k = k' := by
  cases A with
  | nil =>
    have h1 := List.cons.inj h
    exact ⟨rfl, h1.2, h1.1⟩
  | cons a A =>
    have h1 := (List.cons.inj h).2
    simp at h1

theorem Shape.setPr (hs : Shape (.mk tag b d p h (A ++ k :: B))) (v : Int) : Shape (.mk tag b d p h (A ++ k.setPr v :: B)) := by
  have hone : ∀ k', A ++ k :: B = [k'] → A ++ k.setPr v :: B = [k'.setPr v] := by
    intro k' e
    obtain ⟨rfl, rfl, rfl⟩ := one_of A B k k' e
    rfl
  cases tag with
  | st =>
    obtain ⟨h1, h2, h3, h4, h5, h6, h7⟩ := hs
    refine ⟨h1, h2, ?_, by rw [map_setPr]; exact h4, by rw [map_setPr]; exact h5, fun _ => by simp, fun e => ?_⟩
    · intro x hx
      rcases List.mem_append.1 hx with hx | hx
      · exact h3 x (by simp [hx])
      · rcases List.mem_cons.1 hx with rfl | hx
        · rw [setPr_tag]; exact h3 k (by simp)
        · exact h3 x (by simp [hx])
    · obtain ⟨h8, k', h9, h10⟩ := h7 e
      exact ⟨h8, _, hone k' h9, by rw [setPr_tag]; exact h10⟩
  | wc =>
    obtain ⟨h1, h2, h3, h4, k', h5, h6⟩ := hs
    exact ⟨h1, h2, h3, h4, _, hone k' h5, by rw [setPr_tag]; exact h6⟩
  | pm =>
    obtain ⟨h1, h2, h3, h4, h5⟩ := hs
    refine ⟨h1, ?_, h3, fun _ => by simp, ?_⟩
    · rw [R_mk, RL_setPr, ← R_mk .pm b d]; exact h2
    · rcases h5 with ⟨h5, _⟩ | ⟨k', h5, h6, h7, h8⟩
      · simp at h5
      · exact .inr ⟨_, hone k' h5, by rw [setPr_tag]; exact h6, by rw [setPr_key]; exact h7, h8⟩
  | ch =>
    obtain ⟨h1, h2, h3, k', h4, h5⟩ := hs
    exact ⟨h1, h2, h3, _, hone k' h4, by rw [setPr_tag]; exact h5⟩
  | cl =>
    obtain ⟨_, h2, _⟩ := hs
    simp at h2

theorem Like.setPrKid (hr : Rep w (.mk tag b d p h (A ++ k :: B))) (hw : Wf (.mk tag b d p h (A ++ k :: B))) (v : Int) (q : Nat) :
    Like w (.mk tag b d p h (A ++ k :: B)) ((w.setCell ⟨k.b, 4, none⟩ (.int .u32 v)).drewN q) (.mk tag b d p h (A ++ k.setPr v :: B)) := by
  have hk : k ∈ (HT.mk tag b d p h (A ++ k :: B)).kids := by show k ∈ A ++ k :: B; simp
  refine ⟨⟨rfl, rfl, id, fun _ => rfl⟩, (hr.setPrKid v).same (fun _ _ => rfl), Wf.of_top (Shape.setPr hw.top v) ?_, ?_, ((Kept.refl _ w).setCell (.inl (mem_blocks_kid hk (mem_blocks_self k))) _).drewN q, ?_⟩
  · intro x hx
    rcases List.mem_append.1 hx with hx | hx
    · exact hw.kid (t := .mk tag b d p h (A ++ k :: B)) (by show x ∈ A ++ k :: B; simp [hx])
    · rcases List.mem_cons.1 hx with rfl | hx
      · exact setPr_wf k v (hw.kid hk)
      · exact hw.kid (t := .mk tag b d p h (A ++ k :: B)) (by show x ∈ A ++ k :: B; simp [hx])
  · rw [R_mk, R_mk, RL_setPr]
  · intro x hx
    left
    have e : blocks (.mk tag b d p h (A ++ k.setPr v :: B)) = blocks (.mk tag b d p h (A ++ k :: B)) := by
      rw [blocks_mk, blocks_mk, blocksL_append, blocksL_append, blocksL_cons, blocksL_cons, setPr_blocks]
      rfl
    rw [e] at hx; exact hx

end
end Go.Proofs.Ytcobbbbnmepmfaa
