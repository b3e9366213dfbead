/- A parameter's node against what is left of the path. -/
import Derived.Test.YtcobbbbnmepmfaaRoPr
namespace Go.Proofs.Ytcobbbbnmepmfaa
open Go Go.RowKit Go.Lib Tr

theorem slashed_head {s : List Tok} (h : slashed s) {c : UInt8} (hc : (enc s)[0]? = some c) : c = 47 := by
  match s, h with
  | .b c' :: s, h =>
    have h1 : c' = c := by simpa [enc] using hc
    rw [← h1]; exact h
  | .all z :: s, _ =>
    have h1 : (47 : UInt8) = c := by simpa [enc] using hc
    exact h1.symm

theorem par_match {x : Bytes} {sl : Bool} {s : List Tok} (hx : name x) (hv : Val sl s) (ha : x.length + 1 ≤ (enc s).length) (hb : (enc s).take (x.length + 1) = 58 :: x)
    (hc : (enc s).length ≤ x.length + 1 ∨ (enc s)[x.length + 1]? = some 47) : ∃ s', s = .par x :: s' := by
  match s, hv with
  | [], _ => simp [enc] at ha
  | .b c :: s, hv =>
    exfalso
    have h1 : c = 58 := by
      have := congrArg List.head? hb
      simpa [enc] using this
    exact hv.1.1 h1
  | .all z :: s, _ =>
    exfalso
    have := congrArg List.head? hb
    simp [enc] at this
  | .par y :: s, hv =>
    obtain ⟨_, hy, hsl, _⟩ := hv
    have hb2 : (y ++ enc s).take x.length = x := by
      have := congrArg List.tail hb
      simpa [enc] using this
    have ha2 : x.length ≤ (y ++ enc s).length := by simpa [enc] using ha
    have hc2 : (y ++ enc s).length ≤ x.length ∨ (y ++ enc s)[x.length]? = some 47 := by simpa [enc] using hc
    rcases Nat.lt_trichotomy y.length x.length with hlt | heq | hgt
    · exfalso
      have h1 : x[y.length]? = (y ++ enc s)[y.length]? := by
        conv => lhs; rw [← hb2]
        exact List.getElem?_take_of_lt hlt
      rw [List.getElem?_append_right (Nat.le_refl _), Nat.sub_self] at h1
      rw [List.getElem?_eq_getElem hlt] at h1
      have h2 := slashed_head hsl h1.symm
      exact (hx.2 _ (List.getElem_mem hlt)).2 h2
    · refine ⟨s, ?_⟩
      have : y = x := by rw [← hb2, ← heq, List.take_left]
      rw [this]
    · exfalso
      rcases hc2 with h | h
      · rw [List.length_append] at h; omega
      · rw [List.getElem?_append_left hgt, List.getElem?_eq_getElem hgt] at h
        exact (hy.2 _ (List.getElem_mem hgt)).2 (Option.some.inj h)

section
variable {w : World} {b cb : Nat} {d cd : Dec} {p cp : ByteArray} {h ch : Option Nat} {ck : List HT}

/-- The parameter's maxParams is raised. -/
theorem Like.kidMp (hr : Rep w (.mk .wc b d p h [.mk .pm cb cd cp ch ck])) (hw : Wf (.mk .wc b d p h [.mk .pm cb cd cp ch ck])) {m : Nat} (hm : cd.mp ≤ m) (hm2 : m ≤ 255) :
    Like w (.mk .wc b d p h [.mk .pm cb cd cp ch ck]) (w.setCell ⟨cb, 3, none⟩ (.int .u8 (m : Int))) (.mk .wc b d p h [.mk .pm cb { cd with mp := m } cp ch ck]) := by
  have hk : (HT.mk .pm cb cd cp ch ck) ∈ (HT.mk .wc b d p h [.mk .pm cb cd cp ch ck]).kids := by show _ ∈ [_]; simp
  have hrk := hr.kid hk
  have hwk := hw.kid hk
  have hbk : blocks (.mk .pm cb { cd with mp := m } cp ch ck) = blocks (.mk .pm cb cd cp ch ck) := by simp [blocks_mk, own]
  have hRk : R (.mk .pm cb { cd with mp := m } cp ch ck) = R (.mk .pm cb cd cp ch ck) := rfl
  refine ⟨⟨rfl, rfl, id, fun _ => rfl⟩, hr.swap (A := []) (B := []) rfl (hrk.setMp m) ((Kept.refl _ w).setCell (.inl (mem_blocks_self (.mk .pm cb cd cp ch ck))) _) (fun x hx => by rw [hbk] at hx; exact .inl hx), ?_, List.Perm.refl _, (Kept.refl _ w).setCell (.inl (mem_blocks_kid hk (mem_blocks_self (.mk .pm cb cd cp ch ck)))) _, ?_⟩
  · refine Wf.of_top ?_ ?_
    · obtain ⟨h1, h2, h3, h4, _⟩ := hw.top
      exact ⟨h1, h2, h3, h4, _, rfl, rfl⟩
    · intro x hx
      rw [List.mem_singleton.1 hx]
      refine Wf.of_top ?_ (fun y hy => hwk.kid (t := .mk .pm cb cd cp ch ck) hy)
      obtain ⟨h1, h2, h3, h4, h5⟩ := hwk.top
      exact ⟨h1, fun r hr => Nat.le_trans (h2 r hr) hm, hm2, h4, h5⟩
  · intro x hx
    left
    rw [blocks_mk, blocksL_cons, hbk] at hx
    rw [blocks_mk, blocksL_cons]
    exact hx

end

end Go.Proofs.Ytcobbbbnmepmfaa
