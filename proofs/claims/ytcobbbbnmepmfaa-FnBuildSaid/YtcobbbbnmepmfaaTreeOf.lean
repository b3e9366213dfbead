/- A tree of paths: the number of the first one that can't be registered. -/
import Derived.Test.YtcobbbbnmepmfaaAdded
namespace Go.Proofs.Ytcobbbbnmepmfaa
open Go Go.RowKit Go.Lib Tr

/-- Texts as they lie in memory. -/
def StrCells (w : World) (a : Option Addr) (P : List ByteArray) : Prop :=
  P = [] ∨ ∃ b o, a = some ⟨b, o, none⟩ ∧ b < w.heap.size ∧ ∀ i p, P[i]? = some p → w.cell? ⟨b, o + i, none⟩ = some (.string p)

/-- The tree between two calls, empty or not; its blocks are new. -/
def TreeOr (w : World) (rb B : Nat) (l : List (List Tok × Nat)) : Prop :=
  B ≤ rb ∧ B ≤ w.heap.size ∧ ((l = [] ∧ EmptyAt w rb) ∨ ∃ t, TreeAt w t l ∧ t.b = rb ∧ ∀ x ∈ blocks t, B ≤ x)

def AddedOr (w : World) (rb B : Nat) (l : List (List Tok × Nat)) (s : List Tok) (n : Nat) (e : Ending) (w' : World) : Prop :=
  ∃ ok : Bool, e = .returned (.bool ok) ∧ ((ok = true ∧ ¬ Bad l s ∧ TreeOr w' rb B ((s, n) :: l)) ∨ (ok = false ∧ Bad l s)) ∧ Below B w w'

theorem added_any (w : World) (rb B : Nat) (l : List (List Tok × Nat)) (s : List Tok) (n : Nat) (full : ByteArray) (h : TreeOr w rb B l) (hs : RouteIn full s) (hl : ∀ r ∈ l, (enc r.1).length ≤ 2147483647) :
    Calls Try.prog 33 #[.pointer (some ⟨rb, 0, none⟩), .string full, .int .i64 (n : Int)] w (AddedOr w rb B l s n) := by
  obtain ⟨hB1, hB2, ⟨rfl, he⟩ | ⟨t, ht, rfl, hsub⟩⟩ := h
  · obtain ⟨ty, hrow⟩ := he
    have hlt : rb < w.heap.size := (Array.getElem?_eq_some_iff.1 hrow).1
    have he' : EmptyAt (w.alloc (.cells #[.bool false] 4)) rb := ⟨ty, (alloc_lt _ _ hlt).trans hrow⟩
    refine (added_of (S := [rb]) (by simpa using hlt) (addRoute_first _ rb s n full he' hs)).mono ?_
    rintro e w' ⟨ok, h1, h2, h3⟩
    refine ⟨ok, h1, ?_, h3.below (by simpa using hB1) hB2⟩
    rcases h2 with ⟨h4, h5, t', h6, h7, h8⟩ | h2
    · refine .inl ⟨h4, h5, hB1, Nat.le_trans hB2 h3.size, .inr ⟨t', h6, h7, fun x hx => ?_⟩⟩
      rcases h8 x hx with h9 | h9
      · rw [List.mem_singleton.1 h9]; exact hB1
      · omega
    · exact .inr h2
  · have ht' : TreeAt (w.alloc (.cells #[.bool false] 4)) t l := ht.same fun x hx => alloc_lt _ _ (ht.rep.lt x hx)
    refine (added_of (S := blocks t) (ht.rep.lt) (addRoute_next _ t l s n full ht' hs hl)).mono ?_
    rintro e w' ⟨ok, h1, h2, h3⟩
    refine ⟨ok, h1, ?_, h3.below hsub hB2⟩
    rcases h2 with ⟨h4, h5, t', h6, h7, h8⟩ | h2
    · refine .inl ⟨h4, h5, hB1, Nat.le_trans hB2 h3.size, .inr ⟨t', h6, h7, fun x hx => ?_⟩⟩
      rcases h8 x hx with h9 | h9
      · exact hsub x h9
      · omega
    · exact .inr h2

/-- The routes with their numbers, the last one first. -/
def rl (T : List (List Tok)) : List (List Tok × Nat) := T.zipIdx.reverse

theorem rl_snoc (T : List (List Tok)) (s : List Tok) : rl (T ++ [s]) = (s, T.length) :: rl T := by
  simp [rl, List.zipIdx_append]

theorem mem_rl {T : List (List Tok)} {r : List Tok × Nat} (h : r ∈ rl T) : T[r.2]? = some r.1 := by
  rw [rl, List.mem_reverse] at h
  have := List.mem_zipIdx_iff_getElem?.1 h
  exact this

/-- m is the number of the first route that can't stand with one ahead of it. -/
structure FirstBad (T : List (List Tok)) (m : Nat) : Prop where
  le : m ≤ T.length
  ok : ∀ (i : Nat) s, i < m → T[i]? = some s → ¬ Bad (rl (T.take i)) s
  bad : ∀ s, T[m]? = some s → Bad (rl (T.take m)) s

def TreePost (T : List (List Tok)) (w : World) (e : Ending) (w' : World) : Prop :=
  ∃ m : Nat, FirstBad T m ∧ Below w.heap.size w w' ∧ ((m < T.length ∧ e = .returned (.tuple #[.pointer none, .int .i64 (m : Int)])) ∨
    (m = T.length ∧ ∃ rb, e = .returned (.tuple #[.pointer (some ⟨rb, 0, none⟩), .int .i64 (m : Int)]) ∧ TreeOr w' rb w.heap.size (rl T)))

set_option maxHeartbeats 8000000 in
set_option maxRecDepth 100000 in
theorem tree_any (w : World) (a : Option Addr) (c : Nat) (P : List ByteArray) (T : List (List Tok)) (hc : StrCells w a P) (hlen : P.length = T.length) (hl : P.length ≤ 2147483647) (hin : ∀ (i : Nat) p s, P[i]? = some p → T[i]? = some s → RouteIn p s) :
    Calls Try.prog 25 #[.slice a P.length c] w (TreePost T w) := by
  have HLEN := Lib.hid hlen
  clear hlen
  go_enter Try.func25, Try.ntmps25
  go_wp2
  go_loopw [11] (fun vi wr => ∃ i : Nat, vi = .int .i64 i ∧ i ≤ P.length ∧ Hid (TreeOr wr w.heap.size w.heap.size (rl (T.take i))) ∧ Hid (∀ (j : Nat) s, j < i → T[j]? = some s → ¬ Bad (rl (T.take j)) s) ∧ Hid (Below w.heap.size w wr)) (fun vi _ => P.length - (RowKit.intOf vi).toNat)
  case atStart => exact ⟨0, rfl, by omega, ⟨Nat.le_refl _, by rw [alloc_size]; omega, .inl ⟨rfl, _, alloc_at _ _⟩⟩, (fun j s hj => by omega), (Below.refl _ w).alloc (Nat.le_refl _) _⟩
  case round =>
    obtain ⟨i, rfl, hi, HT, HOK, HB⟩ := hrel
    by_cases hlt : i < P.length
    · have hT : (i : Int) < (P.length : Int) := by omega
      obtain ⟨b, o, rfl, hb, hcs⟩ : ∃ b o, a = some ⟨b, o, none⟩ ∧ b < w.heap.size ∧ ∀ i p, P[i]? = some p → w.cell? ⟨b, o + i, none⟩ = some (.string p) := by
        rcases hc with rfl | h
        · simp at hlt
        · exact h
      obtain ⟨p, hp⟩ : ∃ p, P[i]? = some p := ⟨_, List.getElem?_eq_getElem hlt⟩
      obtain ⟨s, hs⟩ : ∃ s, T[i]? = some s := ⟨_, List.getElem?_eq_getElem (by have := HLEN.out; omega)⟩
      have hcell : wr.cell? ⟨b, o + i, none⟩ = some (.string p) := by rw [HB.out.cell (by exact hb)]; exact hcs i p hp
      have hle : ∀ r ∈ rl (T.take i), (enc r.1).length ≤ 2147483647 := by
        intro r hr
        have h1 := mem_rl hr
        have h2 : r.2 < (T.take i).length := (List.getElem?_eq_some_iff.1 h1).1
        rw [List.length_take] at h2
        rw [List.getElem?_take_of_lt (by omega)] at h1
        have hPT := HLEN.out
        have h3 := hin r.2 (P[r.2]'(by omega)) r.1 (List.getElem?_eq_getElem (by omega)) h1
        have h4 := h3.text
        rw [← h4]
        exact h3.size
      have HADD := Lib.hid (added_any wr w.heap.size w.heap.size (rl (T.take i)) s i p HT.out (hin i p s hp hs) hle)
      have htk : rl (T.take (i + 1)) = (s, i) :: rl (T.take i) := by
        rw [List.take_add_one, hs, Option.toList_some, rl_snoc, List.length_take, Nat.min_eq_left (by have := HLEN.out; omega)]
      have hbad : Bad (rl (T.take i)) s → FirstBad T i := fun h => ⟨by have := HLEN.out; omega, HOK.out, fun s' h' => by rw [hs] at h'; rw [← Option.some.inj h']; exact h⟩
      have HPOST : Hid (∀ e w', AddedOr wr w.heap.size w.heap.size (rl (T.take i)) s i e w' → Below w.heap.size w w' ∧ ((e = .returned (.bool true) ∧ TreeOr w' w.heap.size w.heap.size (rl (T.take (i + 1))) ∧ ∀ (j : Nat) s, j < i + 1 → T[j]? = some s → ¬ Bad (rl (T.take j)) s) ∨ (e = .returned (.bool false) ∧ FirstBad T i))) := by
        rintro e w' ⟨ok, h1, h2, h3⟩
        refine ⟨HB.out.trans h3, ?_⟩
        rcases h2 with ⟨rfl, h4, h5⟩ | ⟨rfl, h4⟩
        · refine .inl ⟨h1, by rw [htk]; exact h5, ?_⟩
          intro j s' hj hs'
          by_cases e : j = i
          · subst e
            rw [hs] at hs'
            rw [← Option.some.inj hs']; exact h4
          · exact HOK.out j s' (by omega) hs'
        · exact .inr ⟨h1, hbad h4⟩
      have hTL : i < T.length := by have := HLEN.out; omega
      have HTL := Lib.hid hTL
      clear hTL
      clear hp hs hle htk hbad hcs hin hc
      go_wp2_with (go_at_call 33; refine HADD.out.mono ?_; intro e w' hpp; rcases (HPOST.out e w' hpp) with ⟨hb2, ⟨rfl, h4, h5⟩ | ⟨rfl, h4⟩⟩)
      · go_roundw
        case rel => exact ⟨i + 1, by go_num, by omega, h4, h5, hb2⟩
        case measure => simp [RowKit.intOf]; omega
      · refine bodyPost_ret (v := .tuple #[.pointer none, .int .i64 (i : Int)]) (by simp [results, Try.results25, go_sem]) rfl ?_
        exact ⟨i, h4, hb2, .inl ⟨HTL.out, rfl⟩⟩
    · have hT : ¬ (i : Int) < (P.length : Int) := by omega
      have HF : Hid (TreePost T w (.returned (.tuple #[.pointer (some ⟨w.heap.size, 0, none⟩), .int .i64 (P.length : Int)])) wr) := by
        have hil : i = T.length := by have := HLEN.out; omega
        subst hil
        refine ⟨T.length, ⟨Nat.le_refl _, HOK.out, fun s hs => by simp at hs⟩, HB.out, .inr ⟨rfl, w.heap.size, by rw [HLEN.out], ?_⟩⟩
        have := HT.out
        rwa [List.take_length] at this
      go_wp2
      refine bodyPost_ret (v := .tuple #[.pointer (some ⟨w.heap.size, 0, none⟩), .int .i64 (P.length : Int)]) (by simp [results, Try.results25, go_sem]) rfl ?_
      exact HF.out

end Go.Proofs.Ytcobbbbnmepmfaa
