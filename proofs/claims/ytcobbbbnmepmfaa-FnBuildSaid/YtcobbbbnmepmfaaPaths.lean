/- The texts of routes: the reference's Path, Paths. -/
import Derived.Test.YtcobbbbnmepmfaaSegs
import Derived.Test.YtcobbbbnmepmfaaPath
import Derived.Laws.Strings3
import Derived.Deep.RegionHeld3
import Derived.BigRegion
namespace Go.Proofs.Ytcobbbbnmepmfaa
open Go Go.RowKit Go.Lib Tr

theorem Below.of_drewN {B : Nat} (w : World) (q : Nat) : Below B w (w.drewN q) := ⟨rfl, rfl, rfl, Nat.le_refl _, fun _ _ => rfl⟩

def PathPost (l : List (Int × ByteArray)) (w : World) (e : Ending) (w' : World) : Prop :=
  ∃ p : ByteArray, e = .returned (.string p) ∧ p.data.toList = enc (tokR l) ∧ p.size ≤ 320 ∧ Below w.heap.size w w'

set_option maxHeartbeats 8000000 in
set_option maxRecDepth 100000 in
theorem path_any (a : Option Addr) (l : List (Int × ByteArray)) (c : Nat) (w : World) (hs : SegCells w a l) (hr : RouteOk l) :
    Calls Try.prog 21 #[.slice a l.length c] w (PathPost l w) := by
  have HS := Lib.hid hs
  have HR := Lib.hid hr
  have hll : l.length ≤ 10 := hr.2.1
  clear hs hr
  go_enter Try.func21, Try.ntmps21
  go_wp2
  go_loopw [3, 8] (fun vo vi wr => ∃ (i : Nat) (out : ByteArray), vo = .string out ∧ vi = .int .i64 i ∧ i ≤ l.length ∧ out.size ≤ 32 * i ∧ Hid (out.data.toList = enc (tokR (l.take i))) ∧ Hid (Below w.heap.size w wr)) (fun _ vi _ => l.length - (RowKit.intOf vi).toNat)
  case atStart => exact ⟨0, ⟨#[]⟩, rfl, rfl, by omega, by decide, rfl, Below.refl _ _⟩
  case round =>
    obtain ⟨i, out, rfl, rfl, hi, ho, HO, HB⟩ := hrel
    by_cases hlt : i < l.length
    · have hT : (i : Int) < (l.length : Int) := by omega
      obtain ⟨k, t, hl⟩ : ∃ k t, l[i]? = some (k, t) := ⟨_, _, by rw [List.getElem?_eq_getElem hlt]⟩
      obtain ⟨b, o, rfl, hb, hcs⟩ : ∃ b o, a = some ⟨b, o, none⟩ ∧ b < w.heap.size ∧ ∀ i k t, l[i]? = some (k, t) → w.cell? ⟨b, o + i * 2, none⟩ = some (.int .i64 k) ∧ w.cell? ⟨b, o + i * 2 + 1, none⟩ = some (.string t) ∧ t.size ≤ 2147483647 := by
        rcases HS.out with rfl | h
        · simp at hlt
        · exact h
      obtain ⟨c0, c1, ht⟩ := hcs i k t hl
      have c0' : wr.cell? ⟨b, o + i * 2, none⟩ = some (.int .i64 k) := by rw [HB.out.cell (by exact hb)]; exact c0
      have c1' : wr.cell? ⟨b, o + i * 2 + 1, none⟩ = some (.string t) := by rw [HB.out.cell (by exact hb)]; exact c1
      have hseg := HR.out.2.2 i k t hl
      have ht30 : t.size ≤ 30 := by
        have := hseg.2.2.1
        unfold txt at this
        rw [Bool.and_eq_true] at this
        have h2 := of_decide_eq_true this.2
        rwa [← Lib.size_eq] at h2
      have hk012 : k = 0 ∨ k = 1 ∨ k = 2 := by have := hseg.1; have := hseg.2.1; omega
      have HNEXT : Hid (∀ mid out', out' = out ++ ⟨#[47]⟩ ++ mid ++ t → (k = 0 ∧ mid = ⟨#[]⟩ ∨ k = 1 ∧ mid = ⟨#[58]⟩ ∨ k = 2 ∧ mid = ⟨#[42]⟩) → out'.size ≤ 32 * (i + 1) ∧ out'.data.toList = enc (tokR (l.take (i + 1)))) := by
        rintro mid out' rfl hm
        have h1 : tokR (l.take (i + 1)) = tokR (l.take i) ++ tokSeg (k, t) := by
          rw [List.take_add_one, hl]
          simp [tokR, List.flatMap_append]
        rw [h1, enc_append, ← HO.out]
        rcases hm with ⟨rfl, rfl⟩ | ⟨rfl, rfl⟩ | ⟨rfl, rfl⟩
        · refine ⟨?_, ?_⟩
          · simp only [ByteArray.size_append]
            have e1 : (⟨#[47]⟩ : ByteArray).size = 1 := rfl
            have e2 : (⟨#[]⟩ : ByteArray).size = 0 := rfl
            omega
          · simp [tokSeg, enc, enc_bs]
        · refine ⟨?_, ?_⟩
          · simp only [ByteArray.size_append]
            have e1 : (⟨#[47]⟩ : ByteArray).size = 1 := rfl
            have e2 : (⟨#[58]⟩ : ByteArray).size = 1 := rfl
            omega
          · simp [tokSeg, enc]
        · refine ⟨?_, ?_⟩
          · simp only [ByteArray.size_append]
            have e1 : (⟨#[47]⟩ : ByteArray).size = 1 := rfl
            have e2 : (⟨#[42]⟩ : ByteArray).size = 1 := rfl
            omega
          · simp [tokSeg, enc]
      have HB2 : Hid (∀ ob ob' q, Below w.heap.size w (((wr.alloc ob).alloc ob').drewN q)) := fun ob ob' q => by
        have h1 := HB.out.size
        exact (((HB.out.alloc (by omega) ob).alloc (by simp; omega) ob').trans (Below.of_drewN _ q))
      have hos : out.size ≤ 320 := by omega
      clear hcs c0 c1
      rcases hk012 with rfl | rfl | rfl
      · clear hl hseg
        go_wp2
        go_region
        go_wp2
        go_roundw
        case rel => exact ⟨i + 1, _, rfl, by go_num, by omega, (HNEXT.out ⟨#[]⟩ _ rfl (by simp)).1, (HNEXT.out ⟨#[]⟩ _ rfl (by simp)).2, HB2.out _ _ 1⟩
        case measure => simp [RowKit.intOf]; omega

      · clear hl hseg
        go_wp2
        go_region
        go_wp2
        go_roundw
        case rel => exact ⟨i + 1, _, rfl, by go_num, by omega, (HNEXT.out ⟨#[58]⟩ _ rfl (by simp)).1, (HNEXT.out ⟨#[58]⟩ _ rfl (by simp)).2, HB2.out _ _ 1⟩
        case measure => simp [RowKit.intOf]; omega

      · clear hl hseg
        go_wp2
        go_region
        go_wp2
        go_roundw
        case rel => exact ⟨i + 1, _, rfl, by go_num, by omega, (HNEXT.out ⟨#[42]⟩ _ rfl (by simp)).1, (HNEXT.out ⟨#[42]⟩ _ rfl (by simp)).2, HB2.out _ _ 1⟩
        case measure => simp [RowKit.intOf]; omega

    · have hT : ¬ (i : Int) < (l.length : Int) := by omega
      have HF : Hid (PathPost l w (.returned (.string out)) wr) := by
        have hil : i = l.length := by omega
        subst hil
        refine ⟨out, rfl, ?_, by omega, HB.out⟩
        have := HO.out
        rwa [List.take_length] at this
      clear HO
      go_wp2
      go_ret
      exact HF.out

end Go.Proofs.Ytcobbbbnmepmfaa
