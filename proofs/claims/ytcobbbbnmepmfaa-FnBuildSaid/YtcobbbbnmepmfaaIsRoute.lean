/- Which segments make a route: the reference's IsRoute. -/
import Derived.Test.YtcobbbbnmepmfaaText
import Derived.Deep.QuietTactic
import Derived.BigQuiet
namespace Go.Proofs.Ytcobbbbnmepmfaa
open Go Go.RowKit Go.Lib

/-- A route's segments as they lie in memory. -/
def SegCells (w : World) (a : Option Addr) (l : List (Int × ByteArray)) : Prop :=
  l = [] ∨ ∃ b o, a = some ⟨b, o, none⟩ ∧ b < w.heap.size ∧ ∀ i k t, l[i]? = some (k, t) → w.cell? ⟨b, o + i * 2, none⟩ = some (.int .i64 k) ∧ w.cell? ⟨b, o + i * 2 + 1, none⟩ = some (.string t) ∧ t.size ≤ 2147483647

theorem SegCells.below {w w' : World} {a : Option Addr} {l : List (Int × ByteArray)} {B : Nat} (h : SegCells w a l) (hb : Below B w w') (hB : w.heap.size ≤ B) (hs : w.heap.size ≤ w'.heap.size) : SegCells w' a l := by
  rcases h with h | ⟨b, o, h1, h2, h3⟩
  · exact .inl h
  · refine .inr ⟨b, o, h1, by omega, fun i k t hi => ?_⟩
    obtain ⟨c0, c1, ht⟩ := h3 i k t hi
    exact ⟨by rw [hb.cell (by show b < B; omega)]; exact c0, by rw [hb.cell (by show b < B; omega)]; exact c1, ht⟩

def segOk (last : Bool) (k : Int) (t : List UInt8) : Prop :=
  0 ≤ k ∧ k ≤ 2 ∧ txt t = true ∧ (t = [] → k = 0 ∧ last = true) ∧ (k = 2 → last = true)

def RouteOk (l : List (Int × ByteArray)) : Prop :=
  1 ≤ l.length ∧ l.length ≤ 10 ∧ ∀ i k t, l[i]? = some (k, t) → segOk (decide (i + 1 = l.length)) k t.data.toList

def RoutePost (l : List (Int × ByteArray)) (w : World) (e : Ending) (w' : World) : Prop :=
  ∃ B : Bool, e = .returned (.bool B) ∧ (B = true ↔ RouteOk l) ∧ Below w.heap.size w w'

theorem segOk_not {l : List (Int × ByteArray)} {i : Nat} {k : Int} {t : ByteArray} (h : l[i]? = some (k, t)) (hn : ¬ segOk (decide (i + 1 = l.length)) k t.data.toList) : ¬ RouteOk l := fun hr => hn (hr.2.2 i k t h)

set_option maxHeartbeats 4000000 in
set_option maxRecDepth 100000 in
theorem isRoute_any (a : Option Addr) (l : List (Int × ByteArray)) (c : Nat) (w : World) (hs : SegCells w a l) (hl : l.length ≤ 2147483647) :
    Calls Try.prog 24 #[.slice a l.length c] w (RoutePost l w) := by
  by_cases h1 : l.length < 1
  · have t1 : (l.length : Int) < 1 := by omega
    have HF : Hid (RoutePost l w (.returned (.bool false)) w) := ⟨false, rfl, ⟨fun h => (by cases h), fun h => by have := h.1; omega⟩, Below.refl _ _⟩
    clear h1
    go_enter Try.func24, Try.ntmps24
    go_wp2
    go_ret
    exact HF.out
  have t1 : ¬ (l.length : Int) < 1 := by omega
  by_cases h2 : 10 < l.length
  · have t2 : (10 : Int) < (l.length : Int) := by omega
    have HF : Hid (RoutePost l w (.returned (.bool false)) w) := ⟨false, rfl, ⟨fun h => (by cases h), fun h => by have := h.2.1; omega⟩, Below.refl _ _⟩
    clear h2
    go_enter Try.func24, Try.ntmps24
    go_wp2
    go_ret
    exact HF.out
  have t2 : ¬ (10 : Int) < (l.length : Int) := by omega
  obtain ⟨b, o, rfl, hb, hcs0⟩ : ∃ b o, a = some ⟨b, o, none⟩ ∧ b < w.heap.size ∧ ∀ i k t, l[i]? = some (k, t) → w.cell? ⟨b, o + i * 2, none⟩ = some (.int .i64 k) ∧ w.cell? ⟨b, o + i * 2 + 1, none⟩ = some (.string t) ∧ t.size ≤ 2147483647 := by
    rcases hs with rfl | h
    · simp at h1
    · exact h
  have hcs := Lib.hid hcs0
  have HYES : Hid (∀ wr, Below w.heap.size w wr → (∀ j k t, j < l.length → l[j]? = some (k, t) → segOk (decide (j + 1 = l.length)) k t.data.toList) → RoutePost l w (.returned (.bool true)) wr) := fun wr hb h => ⟨true, rfl, ⟨fun _ => ⟨by omega, by omega, fun i k t hi => h i k t (List.getElem?_eq_some_iff.1 hi).1 hi⟩, fun _ => rfl⟩, hb⟩
  have HNO : Hid (∀ wr i k t, Below w.heap.size w wr → l[i]? = some (k, t) → ¬ segOk (decide (i + 1 = l.length)) k t.data.toList → RoutePost l w (.returned (.bool false)) wr) := fun wr i k t hb hi hn => ⟨false, rfl, ⟨fun h => (by cases h), fun h => absurd h (segOk_not hi hn)⟩, hb⟩
  clear h1 h2 hs hcs0
  go_enter Try.func24, Try.ntmps24
  go_wp2
  go_loopw [16] (fun vi wr => ∃ k : Nat, vi = .int .i64 k ∧ k ≤ l.length ∧ Hid (Below w.heap.size w wr) ∧ Hid (∀ j k' t, j < k → l[j]? = some (k', t) → segOk (decide (j + 1 = l.length)) k' t.data.toList)) (fun vi _ => l.length - (RowKit.intOf vi).toNat)
  case atStart => exact ⟨0, rfl, by omega, Below.refl _ _, fun j k t hj => by omega⟩
  case round =>
    obtain ⟨i, rfl, hk, HB, HM⟩ := hrel
    by_cases hlt : i < l.length
    · have hT : (i : Int) < (l.length : Int) := by omega
      obtain ⟨k, t, hl⟩ : ∃ k t, l[i]? = some (k, t) := ⟨_, _, by rw [List.getElem?_eq_getElem hlt]⟩
      obtain ⟨c0, c1, ht⟩ := hcs.out i k t hl
      have c0' : wr.cell? ⟨b, o + i * 2, none⟩ = some (.int .i64 k) := by rw [HB.out.cell (by exact hb)]; exact c0
      have c1' : wr.cell? ⟨b, o + i * 2 + 1, none⟩ = some (.string t) := by rw [HB.out.cell (by exact hb)]; exact c1
      have HLI := Lib.hid hl
      have HB2 : Hid (∀ ob, Below w.heap.size w (wr.alloc ob)) := fun ob => HB.out.alloc (by have := HB.out.size; omega) ob
      have HN2 : Hid (∀ ob, ¬ segOk (decide (i + 1 = l.length)) k t.data.toList → RoutePost l w (.returned (.bool false)) (wr.alloc ob)) := fun ob hn => HNO.out _ i k t (HB2.out ob) HLI.out hn
      have HS : Hid (segOk (decide (i + 1 = l.length)) k t.data.toList → ∀ j k' t, j < i + 1 → l[j]? = some (k', t) → segOk (decide (j + 1 = l.length)) k' t.data.toList) := by
        intro h j k' t' hj hl'
        by_cases e : j = i
        · subst e
          have := HLI.out.symm.trans hl'
          simp only [Option.some.injEq, Prod.mk.injEq] at this
          obtain ⟨rfl, rfl⟩ := this
          exact h
        · exact HM.out j k' t' (by omega) hl'
      clear c0 c1 hl
      by_cases k0 : k < 0
      · have HF := Lib.hid (HN2.out (.cells #[.int .i64 k, .string t] 53) (fun h => by have := h.1; omega))
        go_wp2
        refine bodyPost_ret (v := .bool false) (by simp [results, Try.results24, go_sem]) rfl ?_
        exact HF.out
      by_cases k2 : 2 < k
      · have HF := Lib.hid (HN2.out (.cells #[.int .i64 k, .string t] 53) (fun h => by have := h.2.1; omega))
        go_wp2
        refine bodyPost_ret (v := .bool false) (by simp [results, Try.results24, go_sem]) rfl ?_
        exact HF.out
      by_cases hx : txt t.data.toList = true
      · have HC : Hid (Calls Try.prog 31 #[.string t] (wr.alloc (.cells #[.int .i64 k, .string t] 53)) (fun e w' => e = .returned (.bool true) ∧ (wr.alloc (.cells #[.int .i64 k, .string t] 53)) = w')) := (isText_any t _ ht).mono (by rintro e w' ⟨rfl, rfl⟩; exact ⟨by rw [hx], rfl⟩)
        have HSEG : Hid (segOk (decide (i + 1 = l.length)) k t.data.toList ↔ ((t.data.toList = [] → k = 0 ∧ i + 1 = l.length) ∧ (k = 2 → i + 1 = l.length))) := by
          show _ ↔ _
          unfold segOk
          constructor
          · rintro ⟨_, _, _, h1, h2⟩
            exact ⟨fun e => ⟨(h1 e).1, by simpa using (h1 e).2⟩, fun e => by simpa using h2 e⟩
          · rintro ⟨h1, h2⟩
            exact ⟨by omega, by omega, hx, fun e => ⟨(h1 e).1, by simpa using (h1 e).2⟩, fun e => by simpa using h2 e⟩
        clear hx
        have hk3 : k = 0 ∨ k = 1 ∨ k = 2 := by omega
        clear k0 k2
        by_cases he : t.data.toList = []
        · have e1 : t.toList.isEmpty = true := by rw [Lib.toList_data, he]; rfl
          by_cases hla : i + 1 = l.length
          · have e2 : ((i : Int) == (l.length : Int) - 1) = true := by simp; omega
            rcases hk3 with rfl | rfl | rfl
            · have HGO := Lib.hid (HS.out (HSEG.out.2 ⟨fun _ => ⟨rfl, hla⟩, fun h => by omega⟩))
              clear he hla
              go_wp2_with (go_at_call 31; refine HC.out.mono ?_; rintro e w' ⟨rfl, rfl⟩)
              go_roundw
              case rel => exact ⟨i + 1, by go_num, by omega, HB2.out _, HGO.out⟩
              case measure => simp [RowKit.intOf]; omega
            · have HF := Lib.hid (HN2.out (.cells #[.int .i64 1, .string t] 53) (fun h => absurd ((HSEG.out.1 h).1 he).1 (by omega)))
              clear he hla
              go_wp2_with (go_at_call 31; refine HC.out.mono ?_; rintro e w' ⟨rfl, rfl⟩)
              refine bodyPost_ret (v := .bool false) (by simp [results, Try.results24, go_sem]) rfl ?_
              exact HF.out
            · have HF := Lib.hid (HN2.out (.cells #[.int .i64 2, .string t] 53) (fun h => absurd ((HSEG.out.1 h).1 he).1 (by omega)))
              clear he hla
              go_wp2_with (go_at_call 31; refine HC.out.mono ?_; rintro e w' ⟨rfl, rfl⟩)
              refine bodyPost_ret (v := .bool false) (by simp [results, Try.results24, go_sem]) rfl ?_
              exact HF.out
          · have e2 : ((i : Int) == (l.length : Int) - 1) = false := by simp; omega
            rcases hk3 with rfl | rfl | rfl
            · have HF := Lib.hid (HN2.out (.cells #[.int .i64 0, .string t] 53) (fun h => absurd ((HSEG.out.1 h).1 he).2 hla))
              clear he hla
              go_wp2_with (go_at_call 31; refine HC.out.mono ?_; rintro e w' ⟨rfl, rfl⟩)
              refine bodyPost_ret (v := .bool false) (by simp [results, Try.results24, go_sem]) rfl ?_
              exact HF.out
            · have HF := Lib.hid (HN2.out (.cells #[.int .i64 1, .string t] 53) (fun h => absurd ((HSEG.out.1 h).1 he).2 hla))
              clear he hla
              go_wp2_with (go_at_call 31; refine HC.out.mono ?_; rintro e w' ⟨rfl, rfl⟩)
              refine bodyPost_ret (v := .bool false) (by simp [results, Try.results24, go_sem]) rfl ?_
              exact HF.out
            · have HF := Lib.hid (HN2.out (.cells #[.int .i64 2, .string t] 53) (fun h => absurd ((HSEG.out.1 h).1 he).2 hla))
              clear he hla
              go_wp2_with (go_at_call 31; refine HC.out.mono ?_; rintro e w' ⟨rfl, rfl⟩)
              refine bodyPost_ret (v := .bool false) (by simp [results, Try.results24, go_sem]) rfl ?_
              exact HF.out
        · have e1 : t.toList.isEmpty = false := by rw [Lib.toList_data]; simpa using he
          by_cases hla : i + 1 = l.length
          · have e2 : ((i : Int) == (l.length : Int) - 1) = true := by simp; omega
            rcases hk3 with rfl | rfl | rfl
            · have HGO := Lib.hid (HS.out (HSEG.out.2 ⟨fun h => absurd h he, fun _ => hla⟩))
              clear he hla
              go_wp2_with (go_at_call 31; refine HC.out.mono ?_; rintro e w' ⟨rfl, rfl⟩)
              go_roundw
              case rel => exact ⟨i + 1, by go_num, by omega, HB2.out _, HGO.out⟩
              case measure => simp [RowKit.intOf]; omega
            · have HGO := Lib.hid (HS.out (HSEG.out.2 ⟨fun h => absurd h he, fun _ => hla⟩))
              clear he hla
              go_wp2_with (go_at_call 31; refine HC.out.mono ?_; rintro e w' ⟨rfl, rfl⟩)
              go_roundw
              case rel => exact ⟨i + 1, by go_num, by omega, HB2.out _, HGO.out⟩
              case measure => simp [RowKit.intOf]; omega
            · have HGO := Lib.hid (HS.out (HSEG.out.2 ⟨fun h => absurd h he, fun _ => hla⟩))
              clear he hla
              go_wp2_with (go_at_call 31; refine HC.out.mono ?_; rintro e w' ⟨rfl, rfl⟩)
              go_roundw
              case rel => exact ⟨i + 1, by go_num, by omega, HB2.out _, HGO.out⟩
              case measure => simp [RowKit.intOf]; omega
          · have e2 : ((i : Int) == (l.length : Int) - 1) = false := by simp; omega
            rcases hk3 with rfl | rfl | rfl
            · have HGO := Lib.hid (HS.out (HSEG.out.2 ⟨fun h => absurd h he, fun h => by omega⟩))
              clear he hla
              go_wp2_with (go_at_call 31; refine HC.out.mono ?_; rintro e w' ⟨rfl, rfl⟩)
              go_roundw
              case rel => exact ⟨i + 1, by go_num, by omega, HB2.out _, HGO.out⟩
              case measure => simp [RowKit.intOf]; omega
            · have HGO := Lib.hid (HS.out (HSEG.out.2 ⟨fun h => absurd h he, fun h => by omega⟩))
              clear he hla
              go_wp2_with (go_at_call 31; refine HC.out.mono ?_; rintro e w' ⟨rfl, rfl⟩)
              go_roundw
              case rel => exact ⟨i + 1, by go_num, by omega, HB2.out _, HGO.out⟩
              case measure => simp [RowKit.intOf]; omega
            · have HF := Lib.hid (HN2.out (.cells #[.int .i64 2, .string t] 53) (fun h => hla ((HSEG.out.1 h).2 rfl)))
              clear he hla
              go_wp2_with (go_at_call 31; refine HC.out.mono ?_; rintro e w' ⟨rfl, rfl⟩)
              refine bodyPost_ret (v := .bool false) (by simp [results, Try.results24, go_sem]) rfl ?_
              exact HF.out
      · have HF := Lib.hid (HN2.out (.cells #[.int .i64 k, .string t] 53) (fun h => hx h.2.2.1))
        have hx' : txt t.data.toList = false := by simpa using hx
        clear hx
        have HC : Hid (Calls Try.prog 31 #[.string t] (wr.alloc (.cells #[.int .i64 k, .string t] 53)) (fun e w' => e = .returned (.bool false) ∧ (wr.alloc (.cells #[.int .i64 k, .string t] 53)) = w')) := (isText_any t _ ht).mono (by rintro e w' ⟨rfl, rfl⟩; exact ⟨by rw [hx'], rfl⟩)
        go_wp2_with (go_at_call 31; refine HC.out.mono ?_; rintro e w' ⟨rfl, rfl⟩)
        refine bodyPost_ret (v := .bool false) (by simp [results, Try.results24, go_sem]) rfl ?_
        exact HF.out
    · have hT : ¬ (i : Int) < (l.length : Int) := by omega
      have HF := Lib.hid (HYES.out wr HB.out (fun j k t hj hl => HM.out j k t (by omega) hl))
      go_wp2
      go_ret
      exact HF.out
end Go.Proofs.Ytcobbbbnmepmfaa
