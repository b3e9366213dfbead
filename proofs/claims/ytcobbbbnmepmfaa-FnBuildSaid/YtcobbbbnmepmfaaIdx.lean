/- zzIndex as a function of the two texts. -/
import Derived.Test.YtcobbbbnmepmfaaSmall
namespace Go.Proofs.Ytcobbbbnmepmfaa
open Go.RowKit Go.Lib

/-- The place at which a text first occurs; -1 where it doesn't. -/
def zzI (s sub : ByteArray) : Int :=
  match (List.range (s.size + 1)).find? (fun j => decide (j + sub.size ≤ s.size ∧ s.extract j (j + sub.size) = sub)) with
  | some j => (j : Int)
  | none => -1

theorem zzI_some {s sub : ByteArray} {k : Nat} (h1 : k + sub.size ≤ s.size) (h2 : s.extract k (k + sub.size) = sub) (h3 : ∀ j, j < k → s.extract j (j + sub.size) ≠ sub) : zzI s sub = (k : Int) := by
  have : (List.range (s.size + 1)).find? (fun j => decide (j + sub.size ≤ s.size ∧ s.extract j (j + sub.size) = sub)) = some k := by
    rw [List.find?_range_eq_some]
    refine ⟨by simp [h1, h2], by simp; omega, fun j hj => ?_⟩
    have := h3 j hj
    simp [this]
  unfold zzI
  rw [this]

theorem zzI_none {s sub : ByteArray} {k : Nat} (h1 : ¬ k + sub.size ≤ s.size) (h3 : ∀ j, j < k → s.extract j (j + sub.size) ≠ sub) : zzI s sub = -1 := by
  have : (List.range (s.size + 1)).find? (fun j => decide (j + sub.size ≤ s.size ∧ s.extract j (j + sub.size) = sub)) = none := by
    rw [List.find?_eq_none]
    intro j _
    by_cases hj : j < k
    · simp [h3 j hj]
    · simp; omega
  unfold zzI
  rw [this]

theorem zzI_cases (s sub : ByteArray) : zzI s sub = -1 ∨ (0 ≤ zzI s sub ∧ zzI s sub + sub.size ≤ s.size) := by
  unfold zzI
  cases h : (List.range (s.size + 1)).find? (fun j => decide (j + sub.size ≤ s.size ∧ s.extract j (j + sub.size) = sub)) with
  | none => exact .inl rfl
  | some j =>
    right
    have := List.find?_some h
    simp at this
    exact ⟨by simp, by have := this.1; simp; omega⟩

theorem zzI_found (s sub : ByteArray) (A B : List UInt8) (h : s.data.toList = A ++ (sub.data.toList ++ B)) : zzI s sub ≠ -1 := by
  unfold zzI
  have h1 := congrArg List.length h
  simp only [List.length_append, ← Lib.size_eq] at h1
  cases hf : (List.range (s.size + 1)).find? (fun j => decide (j + sub.size ≤ s.size ∧ s.extract j (j + sub.size) = sub)) with
  | some j => simp
  | none =>
    exfalso
    rw [List.find?_eq_none] at hf
    have := hf A.length (by simp; omega)
    simp at this
    exact this (by omega) (extract_eq_of s sub A B h)

set_option maxHeartbeats 1000000 in
set_option maxRecDepth 100000 in
theorem zzI_any (s sub : ByteArray) (w : World) (hs : s.size ≤ 2147483647) (hsub : sub.size ≤ 2147483647) :
    Calls Try.prog 40 #[.string s, .string sub] w (fun e w' => e = .returned (.int .i64 (zzI s sub)) ∧ w = w') := by
  obtain ⟨z, hz⟩ : ∃ z, z = zzI s sub := ⟨_, rfl⟩
  rw [← hz]
  have HZ := Lib.hid hz
  clear hz
  go_enter Try.func40, Try.ntmps40
  go_wp2
  go_loop [5] (fun vi => ∃ k : Nat, vi = .int .i64 k ∧ k ≤ s.size + 1 ∧ Hid (∀ j, j < k → s.extract j (j + sub.size) ≠ sub)) (fun vi => s.size + 1 - (RowKit.intOf vi).toNat)
  case atStart => exact ⟨0, rfl, by omega, fun j hj => by omega⟩
  case round =>
    obtain ⟨k, rfl, hk, HM⟩ := hrel
    by_cases hlt : k + sub.size ≤ s.size
    · have hT : (k : Int) + (sub.size : Int) ≤ (s.size : Int) := by omega
      have b1 : (k : Int) ≤ (k : Int) + (sub.size : Int) := by omega
      by_cases hx : ((s.extract k (k + sub.size)).toList == sub.toList) = true
      · have HE : Hid (z = (k : Int)) := by
          show _ = _
          rw [HZ.out]
          refine zzI_some hlt ?_ HM.out
          have h1 : (s.extract k (k + sub.size)).toList = sub.toList := by simpa using hx
          rw [Lib.toList_data, Lib.toList_data] at h1
          exact ByteArray.ext (Array.ext' h1)
        go_wp2
        (try simp only [Exit.inBlock, Exit.then])
        refine bodyPost_ret (v := .int .i64 (k : Int)) (by simp [results, Try.results40, go_sem]) rfl ?_
        exact ⟨by rw [HE.out], rfl⟩
      · have hx' : ((s.extract k (k + sub.size)).toList == sub.toList) = false := by simpa using hx
        have HM2 : Hid (∀ j, j < k + 1 → s.extract j (j + sub.size) ≠ sub) := by
          intro j hj
          by_cases e : j = k
          · subst e; intro h; rw [h] at hx; simp at hx
          · exact HM.out j (by omega)
        clear hx
        go_wp2
        go_round
        case rel => exact ⟨k + 1, by go_num, by omega, HM2⟩
        case measure => simp [RowKit.intOf]; omega
    · have hT : ¬ (k : Int) + (sub.size : Int) ≤ (s.size : Int) := by omega
      have HE : Hid (z = -1) := by show _ = _; rw [HZ.out]; exact zzI_none hlt HM.out
      go_wp2
      go_ret
      exact ⟨by rw [HE.out]; rfl, rfl⟩

end Go.Proofs.Ytcobbbbnmepmfaa
