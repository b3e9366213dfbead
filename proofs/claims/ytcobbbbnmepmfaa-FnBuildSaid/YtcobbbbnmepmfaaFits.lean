/- What holds nothing too long: zzFits1, zzFits2, zzFits3. -/
import Derived.Test.YtcobbbbnmepmfaaIsRoute
namespace Go.Proofs.Ytcobbbbnmepmfaa
open Go Go.RowKit Go.Lib

/-- A route's segments, of whatever length. -/
def SegRaw (w : World) (a : Option Addr) (l : List (Int × ByteArray)) : Prop :=
  l = [] ∨ ∃ b o, a = some ⟨b, o, none⟩ ∧ b < w.heap.size ∧ ∀ (i : Nat) k t, l[i]? = some (k, t) → w.cell? ⟨b, o + i * 2, none⟩ = some (.int .i64 k) ∧ w.cell? ⟨b, o + i * 2 + 1, none⟩ = some (.string t)

theorem SegRaw.below {w w' : World} {a : Option Addr} {l : List (Int × ByteArray)} {B : Nat} (h : SegRaw w a l) (hb : Below B w w') (hB : w.heap.size ≤ B) (hs : w.heap.size ≤ w'.heap.size) : SegRaw w' a l := by
  rcases h with h | ⟨b, o, h1, h2, h3⟩
  · exact .inl h
  · refine .inr ⟨b, o, h1, by omega, fun i k t hi => ?_⟩
    obtain ⟨c0, c1⟩ := h3 i k t hi
    exact ⟨by rw [hb.cell (by show b < B; omega)]; exact c0, by rw [hb.cell (by show b < B; omega)]; exact c1⟩

def SegFits (l : List (Int × ByteArray)) : Prop := l.length ≤ 2147483647 ∧ ∀ (i : Nat) k t, l[i]? = some (k, t) → t.size ≤ 2147483647

theorem SegRaw.cells {w : World} {a : Option Addr} {l : List (Int × ByteArray)} (h : SegRaw w a l) (hf : SegFits l) : SegCells w a l := by
  rcases h with h | ⟨b, o, h1, h2, h3⟩
  · exact .inl h
  · exact .inr ⟨b, o, h1, h2, fun i k t hi => ⟨(h3 i k t hi).1, (h3 i k t hi).2, hf.2 i k t hi⟩⟩

def RowsRaw (w : World) (a : Option Addr) (L : List (List (Int × ByteArray))) : Prop :=
  L = [] ∨ ∃ b o, a = some ⟨b, o, none⟩ ∧ b < w.heap.size ∧ ∀ (i : Nat) l, L[i]? = some l → ∃ A C, w.cell? ⟨b, o + i, none⟩ = some (.slice A l.length C) ∧ SegRaw w A l

theorem RowsRaw.below {w w' : World} {a : Option Addr} {L : List (List (Int × ByteArray))} {B : Nat} (h : RowsRaw w a L) (hb : Below B w w') (hB : w.heap.size ≤ B) (hs : w.heap.size ≤ w'.heap.size) : RowsRaw w' a L := by
  rcases h with h | ⟨b, o, h1, h2, h3⟩
  · exact .inl h
  · refine .inr ⟨b, o, h1, by omega, fun i l hi => ?_⟩
    obtain ⟨A, C, c0, c1⟩ := h3 i l hi
    exact ⟨A, C, by rw [hb.cell (by show b < B; omega)]; exact c0, c1.below hb hB hs⟩

def RowsFit (L : List (List (Int × ByteArray))) : Prop := L.length ≤ 2147483647 ∧ ∀ (i : Nat) l, L[i]? = some l → SegFits l

/-- A Bool that tells P; the old memory is as it was. -/
def Tells (P : Prop) (w : World) (e : Ending) (w' : World) : Prop := ∃ B : Bool, e = .returned (.bool B) ∧ (B = true ↔ P) ∧ Below w.heap.size w w'

theorem fits3_any (k : Int) (t : ByteArray) (w : World) : Calls Try.prog 30 #[.agg #[.int .i64 k, .string t]] w (Tells (t.size ≤ 2147483647) w) := by
  by_cases h : 2147483647 < t.size
  · have t1 : (2147483647 : Int) < (t.size : Int) := by omega
    have HN : Hid (¬ t.size ≤ 2147483647) := by show ¬ _; omega
    clear h
    go_enter Try.func30, Try.ntmps30
    go_wp2
    go_ret
    exact ⟨false, rfl, ⟨fun h => (by cases h), fun h => absurd h HN.out⟩, (Below.refl _ w).alloc (Nat.le_refl _) _⟩
  · have t1 : ¬ (2147483647 : Int) < (t.size : Int) := by omega
    have HN : Hid (t.size ≤ 2147483647) := by show _ ≤ _; omega
    clear h
    go_enter Try.func30, Try.ntmps30
    go_wp2
    go_ret
    exact ⟨true, rfl, ⟨fun _ => HN.out, fun _ => rfl⟩, (Below.refl _ w).alloc (Nat.le_refl _) _⟩

set_option maxHeartbeats 4000000 in
set_option maxRecDepth 100000 in
theorem fits2_any (a : Option Addr) (l : List (Int × ByteArray)) (c : Nat) (w : World) (hs : SegRaw w a l) :
    Calls Try.prog 18 #[.slice a l.length c] w (Tells (SegFits l) w) := by
  by_cases h1 : 2147483647 < l.length
  · have t1 : (2147483647 : Int) < (l.length : Int) := by omega
    have HF : Hid (Tells (SegFits l) w (.returned (.bool false)) w) := ⟨false, rfl, ⟨fun h => (by cases h), fun h => by have := h.1; omega⟩, Below.refl _ _⟩
    clear h1
    go_enter Try.func18, Try.ntmps18
    go_wp2
    go_ret
    exact HF.out
  have t1 : ¬ (2147483647 : Int) < (l.length : Int) := by omega
  have HS := Lib.hid hs
  have HYES : Hid (∀ wr, Below w.heap.size w wr → (∀ (j : Nat) k t, j < l.length → l[j]? = some (k, t) → t.size ≤ 2147483647) → Tells (SegFits l) w (.returned (.bool true)) wr) := fun wr hb h => ⟨true, rfl, ⟨fun _ => ⟨by omega, fun i k t hi => h i k t (List.getElem?_eq_some_iff.1 hi).1 hi⟩, fun _ => rfl⟩, hb⟩
  have HNO : Hid (∀ wr (i : Nat) k t, Below w.heap.size w wr → l[i]? = some (k, t) → ¬ t.size ≤ 2147483647 → Tells (SegFits l) w (.returned (.bool false)) wr) := fun wr i k t hb hi hn => ⟨false, rfl, ⟨fun h => (by cases h), fun h => absurd (h.2 i k t hi) hn⟩, hb⟩
  have hll : l.length ≤ 2147483647 := by omega
  clear h1 hs
  go_enter Try.func18, Try.ntmps18
  go_wp2
  go_loopw [10] (fun vi wr => ∃ i : Nat, vi = .int .i64 i ∧ i ≤ l.length ∧ Hid (Below w.heap.size w wr) ∧ Hid (∀ (j : Nat) k' t, j < i → l[j]? = some (k', t) → t.size ≤ 2147483647)) (fun vi _ => l.length - (RowKit.intOf vi).toNat)
  case atStart => exact ⟨0, rfl, by omega, Below.refl _ _, fun j k t hj => by omega⟩
  case round =>
    obtain ⟨i, rfl, hk, HB, HM⟩ := hrel
    by_cases hlt : i < l.length
    · have hT : (i : Int) < (l.length : Int) := by omega
      obtain ⟨k, t, hl⟩ : ∃ k t, l[i]? = some (k, t) := ⟨_, _, by rw [List.getElem?_eq_getElem hlt]⟩
      obtain ⟨b, o, rfl, hb, hcs⟩ : ∃ b o, a = some ⟨b, o, none⟩ ∧ b < w.heap.size ∧ ∀ (i : Nat) k t, l[i]? = some (k, t) → w.cell? ⟨b, o + i * 2, none⟩ = some (.int .i64 k) ∧ w.cell? ⟨b, o + i * 2 + 1, none⟩ = some (.string t) := by
        rcases HS.out with rfl | h
        · simp at hlt
        · exact h
      obtain ⟨c0, c1⟩ := hcs i k t hl
      have c0' : wr.cell? ⟨b, o + i * 2, none⟩ = some (.int .i64 k) := by rw [HB.out.cell (by exact hb)]; exact c0
      have c1' : wr.cell? ⟨b, o + i * 2 + 1, none⟩ = some (.string t) := by rw [HB.out.cell (by exact hb)]; exact c1
      have HPOST : Hid (∀ e w', Tells (t.size ≤ 2147483647) (wr.alloc (.cells #[.int .i64 k, .string t] 53)) e w' → Below w.heap.size w w' ∧ ((e = .returned (.bool true) ∧ ∀ (j : Nat) k' t, j < i + 1 → l[j]? = some (k', t) → t.size ≤ 2147483647) ∨ (e = .returned (.bool false) ∧ Tells (SegFits l) w (.returned (.bool false)) w'))) := by
        rintro e w' ⟨B, h1, h2, h3⟩
        have hbb : Below w.heap.size w w' := (HB.out.alloc (by have := HB.out.size; omega) _).trans (h3.mono (by have := HB.out.size; simp; omega))
        refine ⟨hbb, ?_⟩
        cases B with
        | true =>
          refine .inl ⟨h1, ?_⟩
          intro j k' t' hj hl'
          by_cases e : j = i
          · subst e
            have := hl.symm.trans hl'
            simp only [Option.some.injEq, Prod.mk.injEq] at this
            obtain ⟨rfl, rfl⟩ := this
            exact h2.1 rfl
          · exact HM.out j k' t' (by omega) hl'
        | false => exact .inr ⟨h1, HNO.out w' i k t hbb hl (fun h => by have := h2.2 h; cases this)⟩
      have HC := Lib.hid (fits3_any k t (wr.alloc (.cells #[.int .i64 k, .string t] 53)))
      clear hcs hl c0 c1
      go_wp2_with (go_at_call 30; refine HC.out.mono ?_; intro e w' hpp; rcases (HPOST.out e w' hpp) with ⟨hb2, ⟨rfl, h4⟩ | ⟨rfl, h4⟩⟩)
      · go_roundw
        case rel => exact ⟨i + 1, by go_num, by omega, hb2, h4⟩
        case measure => simp [RowKit.intOf]; omega
      · refine bodyPost_ret (v := .bool false) (by simp [results, Try.results18, go_sem]) rfl ?_
        exact h4
    · have hT : ¬ (i : Int) < (l.length : Int) := by omega
      have HF := Lib.hid (HYES.out wr HB.out (fun j k t hj hl => HM.out j k t (by omega) hl))
      go_wp2
      go_ret
      exact HF.out

set_option maxHeartbeats 4000000 in
set_option maxRecDepth 100000 in
theorem fits1_any (a : Option Addr) (L : List (List (Int × ByteArray))) (c : Nat) (w : World) (hs : RowsRaw w a L) :
    Calls Try.prog 8 #[.slice a L.length c] w (Tells (RowsFit L) w) := by
  by_cases h1 : 2147483647 < L.length
  · have t1 : (2147483647 : Int) < (L.length : Int) := by omega
    have HF : Hid (Tells (RowsFit L) w (.returned (.bool false)) w) := ⟨false, rfl, ⟨fun h => (by cases h), fun h => by have := h.1; omega⟩, Below.refl _ _⟩
    clear h1
    go_enter Try.func8, Try.ntmps8
    go_wp2
    go_ret
    exact HF.out
  have t1 : ¬ (2147483647 : Int) < (L.length : Int) := by omega
  have HS := Lib.hid hs
  have HYES : Hid (∀ wr, Below w.heap.size w wr → (∀ (j : Nat) l, j < L.length → L[j]? = some l → SegFits l) → Tells (RowsFit L) w (.returned (.bool true)) wr) := fun wr hb h => ⟨true, rfl, ⟨fun _ => ⟨by omega, fun i l hi => h i l (List.getElem?_eq_some_iff.1 hi).1 hi⟩, fun _ => rfl⟩, hb⟩
  have HNO : Hid (∀ wr (i : Nat) l, Below w.heap.size w wr → L[i]? = some l → ¬ SegFits l → Tells (RowsFit L) w (.returned (.bool false)) wr) := fun wr i l hb hi hn => ⟨false, rfl, ⟨fun h => (by cases h), fun h => absurd (h.2 i l hi) hn⟩, hb⟩
  have hll : L.length ≤ 2147483647 := by omega
  clear h1 hs
  go_enter Try.func8, Try.ntmps8
  go_wp2
  go_loopw [10] (fun vi wr => ∃ i : Nat, vi = .int .i64 i ∧ i ≤ L.length ∧ Hid (Below w.heap.size w wr) ∧ Hid (∀ (j : Nat) l, j < i → L[j]? = some l → SegFits l)) (fun vi _ => L.length - (RowKit.intOf vi).toNat)
  case atStart => exact ⟨0, rfl, by omega, Below.refl _ _, fun j l hj => by omega⟩
  case round =>
    obtain ⟨i, rfl, hk, HB, HM⟩ := hrel
    by_cases hlt : i < L.length
    · have hT : (i : Int) < (L.length : Int) := by omega
      obtain ⟨l, hl⟩ : ∃ l, L[i]? = some l := ⟨_, List.getElem?_eq_getElem hlt⟩
      obtain ⟨b, o, rfl, hb, hcs⟩ : ∃ b o, a = some ⟨b, o, none⟩ ∧ b < w.heap.size ∧ ∀ (i : Nat) l, L[i]? = some l → ∃ A C, w.cell? ⟨b, o + i, none⟩ = some (.slice A l.length C) ∧ SegRaw w A l := by
        rcases HS.out with rfl | h
        · simp at hlt
        · exact h
      obtain ⟨A, C, c0, hraw⟩ := hcs i l hl
      have c0' : wr.cell? ⟨b, o + i, none⟩ = some (.slice A l.length C) := by rw [HB.out.cell (by exact hb)]; exact c0
      have hraw' := hraw.below HB.out (Nat.le_refl _) HB.out.size
      have HPOST : Hid (∀ e w', Tells (SegFits l) wr e w' → Below w.heap.size w w' ∧ ((e = .returned (.bool true) ∧ ∀ (j : Nat) l, j < i + 1 → L[j]? = some l → SegFits l) ∨ (e = .returned (.bool false) ∧ Tells (RowsFit L) w (.returned (.bool false)) w'))) := by
        rintro e w' ⟨B, h1, h2, h3⟩
        have hbb : Below w.heap.size w w' := HB.out.trans (h3.mono HB.out.size)
        refine ⟨hbb, ?_⟩
        cases B with
        | true =>
          refine .inl ⟨h1, ?_⟩
          intro j l' hj hl'
          by_cases e : j = i
          · subst e
            rw [hl] at hl'
            rw [← Option.some.inj hl']
            exact h2.1 rfl
          · exact HM.out j l' (by omega) hl'
        | false => exact .inr ⟨h1, HNO.out w' i l hbb hl (fun h => by have := h2.2 h; cases this)⟩
      have HC := Lib.hid (fits2_any A l C wr hraw')
      clear hcs hl c0 hraw hraw'
      go_wp2_with (go_at_call 18; refine HC.out.mono ?_; intro e w' hpp; rcases (HPOST.out e w' hpp) with ⟨hb2, ⟨rfl, h4⟩ | ⟨rfl, h4⟩⟩)
      · go_roundw
        case rel => exact ⟨i + 1, by go_num, by omega, hb2, h4⟩
        case measure => simp [RowKit.intOf]; omega
      · refine bodyPost_ret (v := .bool false) (by simp [results, Try.results8, go_sem]) rfl ?_
        exact h4
    · have hT : ¬ (i : Int) < (L.length : Int) := by omega
      have HF := Lib.hid (HYES.out wr HB.out (fun j l hj hl => HM.out j l (by omega) hl))
      go_wp2
      go_ret
      exact HF.out

def RowsOk (L : List (List (Int × ByteArray))) : Prop := L.length ≤ 20 ∧ ∀ (i : Nat) l, L[i]? = some l → RouteOk l

set_option maxHeartbeats 4000000 in
set_option maxRecDepth 100000 in
theorem areRoutes_any (a : Option Addr) (L : List (List (Int × ByteArray))) (c : Nat) (w : World) (hs : RowsRaw w a L) (hf : RowsFit L) :
    Calls Try.prog 9 #[.slice a L.length c] w (Tells (RowsOk L) w) := by
  by_cases h1 : 20 < L.length
  · have t1 : (20 : Int) < (L.length : Int) := by omega
    have HF : Hid (Tells (RowsOk L) w (.returned (.bool false)) w) := ⟨false, rfl, ⟨fun h => (by cases h), fun h => by have := h.1; omega⟩, Below.refl _ _⟩
    clear h1
    go_enter Try.func9, Try.ntmps9
    go_wp2
    go_ret
    exact HF.out
  have t1 : ¬ (20 : Int) < (L.length : Int) := by omega
  have HS := Lib.hid hs
  have HFT := Lib.hid hf
  have HYES : Hid (∀ wr, Below w.heap.size w wr → (∀ (j : Nat) l, j < L.length → L[j]? = some l → RouteOk l) → Tells (RowsOk L) w (.returned (.bool true)) wr) := fun wr hb h => ⟨true, rfl, ⟨fun _ => ⟨by omega, fun i l hi => h i l (List.getElem?_eq_some_iff.1 hi).1 hi⟩, fun _ => rfl⟩, hb⟩
  have HNO : Hid (∀ wr (i : Nat) l, Below w.heap.size w wr → L[i]? = some l → ¬ RouteOk l → Tells (RowsOk L) w (.returned (.bool false)) wr) := fun wr i l hb hi hn => ⟨false, rfl, ⟨fun h => (by cases h), fun h => absurd (h.2 i l hi) hn⟩, hb⟩
  have hll : L.length ≤ 20 := by omega
  clear h1 hs hf
  go_enter Try.func9, Try.ntmps9
  go_wp2
  go_loopw [10] (fun vi wr => ∃ i : Nat, vi = .int .i64 i ∧ i ≤ L.length ∧ Hid (Below w.heap.size w wr) ∧ Hid (∀ (j : Nat) l, j < i → L[j]? = some l → RouteOk l)) (fun vi _ => L.length - (RowKit.intOf vi).toNat)
  case atStart => exact ⟨0, rfl, by omega, Below.refl _ _, fun j l hj => by omega⟩
  case round =>
    obtain ⟨i, rfl, hk, HB, HM⟩ := hrel
    by_cases hlt : i < L.length
    · have hT : (i : Int) < (L.length : Int) := by omega
      obtain ⟨l, hl⟩ : ∃ l, L[i]? = some l := ⟨_, List.getElem?_eq_getElem hlt⟩
      obtain ⟨b, o, rfl, hb, hcs⟩ : ∃ b o, a = some ⟨b, o, none⟩ ∧ b < w.heap.size ∧ ∀ (i : Nat) l, L[i]? = some l → ∃ A C, w.cell? ⟨b, o + i, none⟩ = some (.slice A l.length C) ∧ SegRaw w A l := by
        rcases HS.out with rfl | h
        · simp at hlt
        · exact h
      obtain ⟨A, C, c0, hraw⟩ := hcs i l hl
      have c0' : wr.cell? ⟨b, o + i, none⟩ = some (.slice A l.length C) := by rw [HB.out.cell (by exact hb)]; exact c0
      have hfl := HFT.out.2 i l hl
      have hraw' := (hraw.below HB.out (Nat.le_refl _) HB.out.size).cells hfl
      have HPOST : Hid (∀ e w', RoutePost l wr e w' → Below w.heap.size w w' ∧ ((e = .returned (.bool true) ∧ ∀ (j : Nat) l, j < i + 1 → L[j]? = some l → RouteOk l) ∨ (e = .returned (.bool false) ∧ Tells (RowsOk L) w (.returned (.bool false)) w'))) := by
        rintro e w' ⟨B, h1, h2, h3⟩
        have hbb : Below w.heap.size w w' := HB.out.trans (h3.mono HB.out.size)
        refine ⟨hbb, ?_⟩
        cases B with
        | true =>
          refine .inl ⟨h1, ?_⟩
          intro j l' hj hl'
          by_cases e : j = i
          · subst e
            rw [hl] at hl'
            rw [← Option.some.inj hl']
            exact h2.1 rfl
          · exact HM.out j l' (by omega) hl'
        | false => exact .inr ⟨h1, HNO.out w' i l hbb hl (fun h => by have := h2.2 h; cases this)⟩
      have HC := Lib.hid (isRoute_any A l C wr hraw' hfl.1)
      clear hcs hl c0 hraw hraw' hfl
      go_wp2_with (go_at_call 24; refine HC.out.mono ?_; intro e w' hpp; rcases (HPOST.out e w' hpp) with ⟨hb2, ⟨rfl, h4⟩ | ⟨rfl, h4⟩⟩)
      · go_roundw
        case rel => exact ⟨i + 1, by go_num, by omega, hb2, h4⟩
        case measure => simp [RowKit.intOf]; omega
      · refine bodyPost_ret (v := .bool false) (by simp [results, Try.results9, go_sem]) rfl ?_
        exact h4
    · have hT : ¬ (i : Int) < (L.length : Int) := by omega
      have HF := Lib.hid (HYES.out wr HB.out (fun j l hj hl => HM.out j l (by omega) hl))
      go_wp2
      go_ret
      exact HF.out

end Go.Proofs.Ytcobbbbnmepmfaa
