/- addRoute's round, behind the common prefix. -/
import Derived.Test.YtcobbbbnmepmfaaRoBody
namespace Go.Proofs.Ytcobbbbnmepmfaa
open Go Go.RowKit Go.Lib Tr

/-- Behind the split: the node's path goes with the new path wholly; what is left is not empty or is. -/
def MidAt (w0 : World) (T0 : HT) (s0 : List Tok) (n : Nat) (full pth : ByteArray) (tag0 : Tag) (b : Nat) (s : List Tok) (np : Nat) (a : Act) (w : World) : Prop :=
  ∃ (tag : Tag) (p : ByteArray) (h : Option Nat) (kids : List HT), LoopAt w0 T0 s0 n full pth tag b p h kids s np (.int .i64 (p.size : Int)) a w ∧
    (p.size ≤ pth.size ∧ Mid (.mk tag b ⟨0, 0, 0, ⟨#[]⟩, none⟩ p h kids) s (pth.data.toList.drop p.size)) ∧ rk pth tag = rk pth tag0

section
variable {w0 w : World} {T0 : HT} {tag : Tag} {b : Nat} {d : Dec} {p : ByteArray} {h : Option Nat} {kids : List HT} {s0 s : List Tok} {n np : Nat} {full pth : ByteArray} {i : Nat}

theorem AddAt.stat_mid (ha : AddAt w0 T0 s0 n full pth (.mk tag b d p h kids) s np w) (hl : Lcp p pth i) (hs : tag.stat) :
    (∃ s', s = bs (p.data.toList.take i) ++ s' ∧ pth.data.toList.drop i = enc s' ∧ (∀ c, p.data.toList[i]? = some c → sKey s' ≠ some c)) ∨ (∃ q z, s = bs q ++ [.all z] ∧ p.data.toList.take i = q ++ [47] ∧ pth.data.toList.drop i = 42 :: z) := by
  obtain ⟨sl, hv⟩ := ha.val
  have hplain : ∀ c ∈ p.data.toList, plain c := by
    have := ha.wf.top
    rcases hs with rfl | rfl
    · exact this.2.1
    · exact this.2.1
  have h1 := lcp_stat p.data.toList s sl i hplain hv hl.la (fun j hj => by rw [← ha.text]; exact hl.eq j hj) (by
    rw [← ha.text]
    exact hl.stop)
  rw [← ha.text] at h1
  exact h1

/-- The path's first byte. -/
theorem enc_key {c : UInt8} (h : sKey s = some c) : (enc s)[0]? = some c := by
  match s, h with
  | .b c' :: s, h => simpa [enc, sKey] using h
  | .all z :: s, h => simpa [enc, sKey] using h

theorem AddAt.pos (ha : AddAt w0 T0 s0 n full pth (.mk tag b d p h kids) s np w) (hl : Lcp p pth i) (hs : tag.stat) (hp : 0 < p.size) : 0 < i := by
  rcases Nat.eq_zero_or_pos i with rfl | hi
  · exfalso
    have hk : sKey s = some (key (.mk tag b d p h kids)) := by
      rcases ha.head with ⟨_, h1⟩ | ⟨h1, _⟩ | ⟨h1, _⟩
      · exact h1
      · rcases hs with e | e <;> rw [e] at h1 <;> cases h1
      · rcases hs with e | e <;> rw [e] at h1 <;> cases h1
    have h0 := enc_key hk
    rw [← ha.text] at h0
    have hpl : 0 < p.data.toList.length := hp
    have hp0 : p.data.toList[0]? = some (key (.mk tag b d p h kids)) := by
      simp only [key, HT.p]
      cases hpp : p.data.toList with
      | nil => rw [hpp] at hpl; simp at hpl
      | cons a l => rfl
    rcases hl.stop with h1 | h1 | h1
    · omega
    · have : pth.data.toList.length = 0 := h1.symm
      rw [List.length_eq_zero_iff.1 this] at h0; cases h0
    · rw [h0, hp0] at h1; exact h1 rfl
  · exact hi

theorem AddAt.pm_text (ha : AddAt w0 T0 s0 n full pth (.mk .pm b d p h kids) s np w) : ∃ s', s = toks .pm p.data.toList ++ s' ∧ pth.data.toList = p.data.toList ++ enc s' := by
  rcases ha.head with ⟨h1, _⟩ | ⟨_, ⟨s', h1⟩, _⟩ | ⟨h1, _⟩
  · rcases h1 with h1 | h1 <;> cases h1
  · obtain ⟨⟨x, _, hx⟩, _⟩ := ha.wf.top
    refine ⟨s', h1, ?_⟩
    rw [ha.text, h1]
    show enc (.par p.data.toList.tail :: s') = _
    rw [hx]; rfl
  · cases h1

theorem AddAt.lcp_less (ha : AddAt w0 T0 s0 n full pth (.mk tag b d p h kids) s np w) (hl : Lcp p pth i) (hi : i < p.size) :
    tag.stat ∧ 0 < i ∧ ∀ p1 : ByteArray, p1.data.toList = p.data.toList.take i → Mid (.mk .st b ⟨0, 0, 0, ⟨#[]⟩, none⟩ p1 none []) s (pth.data.toList.drop i) := by
  have hs : tag.stat := by
    cases tag with
    | st => exact .inl rfl
    | wc => exact .inr rfl
    | pm =>
      exfalso
      obtain ⟨s', _, h1⟩ := ha.pm_text
      have hpl : i < p.data.toList.length := hi
      rcases hl.stop with h2 | h2 | h2
      · omega
      · have : i = pth.data.toList.length := h2
        rw [h1, List.length_append] at this
        omega
      · rw [h1, List.getElem?_append_left hpl] at h2; exact h2 rfl
    | ch =>
      obtain ⟨h1, _⟩ := ha.wf.top
      have : p.size = 0 := by
        show p.data.toList.length = 0
        rw [h1]; rfl
      omega
    | cl => exact absurd rfl ha.notcl
  refine ⟨hs, ha.pos hl hs (by omega), ?_⟩
  intro p1 hp1
  rcases ha.stat_mid hl hs with ⟨s', h1, h2, _⟩ | ⟨q, z, h1, h2, h3⟩
  · exact ⟨.inl ⟨s', by show s = bs p1.data.toList ++ s'; rw [hp1]; exact h1, h2⟩⟩
  · exact ⟨.inr ⟨.inl rfl, q, z, h1, by show p1.data.toList = _; rw [hp1]; exact h2, h3⟩⟩

theorem AddAt.lcp_all (ha : AddAt w0 T0 s0 n full pth (.mk tag b d p h kids) s np w) (hl : Lcp p pth i) (hi : ¬ i < p.size) :
    i = p.size ∧ p.size ≤ pth.size ∧ Mid (.mk tag b ⟨0, 0, 0, ⟨#[]⟩, none⟩ p h kids) s (pth.data.toList.drop p.size) := by
  have hip : i = p.size := by have := hl.la; omega
  have hle : p.size ≤ pth.size := by have := hl.lb; omega
  subst hip
  refine ⟨rfl, hle, ?_⟩
  have hlen : p.data.toList.length = p.size := rfl
  have hstat : tag.stat → Mid (.mk tag b ⟨0, 0, 0, ⟨#[]⟩, none⟩ p h kids) s (pth.data.toList.drop p.size) := by
    intro hs
    rcases ha.stat_mid hl hs with ⟨s', h1, h2, _⟩ | ⟨q, z, h1, h2, h3⟩
    · exact ⟨.inl ⟨s', by show s = toks tag p.data.toList ++ s'; rw [toks_stat hs]; rwa [List.take_of_length_le (by omega)] at h1, h2⟩⟩
    · exact ⟨.inr ⟨hs, q, z, h1, by rwa [List.take_of_length_le (by omega)] at h2, h3⟩⟩
  cases tag with
  | st => exact hstat (.inl rfl)
  | wc => exact hstat (.inr rfl)
  | pm =>
    obtain ⟨s', h0, h1⟩ := ha.pm_text
    exact ⟨.inl ⟨s', h0, by rw [h1, List.drop_left' hlen]⟩⟩
  | ch =>
    obtain ⟨h1, _⟩ := ha.wf.top
    have : p.size = 0 := by
      show p.data.toList.length = 0
      rw [h1]; rfl
    exact ⟨.inl ⟨s, rfl, by rw [this]; exact ha.text⟩⟩
  | cl => exact absurd rfl ha.notcl

end
end Go.Proofs.Ytcobbbbnmepmfaa
