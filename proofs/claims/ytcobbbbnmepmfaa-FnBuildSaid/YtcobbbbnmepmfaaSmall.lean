/- The small functions of the tree: min, countParams, zzIndex. -/
import Derived.Test.YtcobbbbnmepmfaaRows
import Derived.Test.YtcobbbbnmepmfaaTok
import Derived.WalkKit
import Derived.WalkSpells
import Derived.WalkLawsBesides
import Derived.Lib.Hide
import Derived.BigCall
import Derived.BigGuard
import Derived.BigQuiet
import Derived.Lib.Strings
import Derived.Lib.PathFns
namespace Go.Proofs.Ytcobbbbnmepmfaa
open Go.RowKit Go.Lib

/-- How many bytes mark a parameter, or all that is left. -/
def wilds (l : List UInt8) : Nat := (l.filter fun c => c == 58 || c == 42).length
theorem wilds_le (l : List UInt8) : wilds l ≤ l.length := List.length_filter_le _ _
theorem wilds_snoc (l : List UInt8) (c : UInt8) : wilds (l ++ [c]) = wilds l + if c = 58 ∨ c = 42 then 1 else 0 := by
  unfold wilds
  rw [List.filter_append, List.length_append]
  by_cases h : c = 58 ∨ c = 42
  · rw [if_pos h]; rcases h with rfl | rfl <;> simp
  · rw [if_neg h]
    have h1 : c ≠ 58 := fun e => h (.inl e)
    have h2 : c ≠ 42 := fun e => h (.inr e)
    simp [h1, h2]

theorem wilds_take_succ (l : List UInt8) (k : Nat) (c : UInt8) (h : l[k]? = some c) : wilds (l.take (k + 1)) = wilds (l.take k) + if c = 58 ∨ c = 42 then 1 else 0 := by
  rw [List.take_add_one, h]
  exact wilds_snoc _ _

theorem wilds_take_le (l : List UInt8) (k : Nat) : wilds (l.take k) ≤ wilds l := by
  conv => rhs; rw [← List.take_append_drop k l]
  unfold wilds
  rw [List.filter_append, List.length_append]
  omega

def minI (a b : Int) : Int := if a ≤ b then a else b

set_option maxRecDepth 100000 in
theorem min_any (a b : Int) (w : World) :
    Calls Try.prog 39 #[.int .i64 a, .int .i64 b] w fun e w' => e = .returned (.int .i64 (minI a b)) ∧ w = w' := by
  by_cases h : a ≤ b
  · have hm : Hid (minI a b = a) := if_pos h
    go_enter Try.func39, Try.ntmps39
    go_wp2
    go_ret
    exact ⟨by rw [hm.out]; rfl, rfl⟩
  · have hm : Hid (minI a b = b) := if_neg h
    go_enter Try.func39, Try.ntmps39
    go_wp2
    go_ret
    exact ⟨by rw [hm.out]; rfl, rfl⟩

theorem beq_u8 (a c : UInt8) : ((a.toNat : Int) == (c.toNat : Int)) = (a == c) := by
  rw [Bool.eq_iff_iff]
  simp only [beq_iff_eq, Int.natCast_inj]
  exact ⟨fun h => UInt8.toNat_inj.1 h, fun h => by rw [h]⟩

set_option maxHeartbeats 1000000 in
set_option maxRecDepth 100000 in
theorem countParams_any (s : ByteArray) (w : World) (hs : s.size ≤ 2147483647) (hn : wilds s.data.toList < 255) :
    Calls Try.prog 38 #[.string s] w fun e w' => e = .returned (.int .u8 ((wilds s.data.toList : Nat) : Int)) ∧ w = w' := by
  obtain ⟨N, hN⟩ : ∃ N, wilds s.data.toList = N := ⟨_, rfl⟩
  rw [hN] at hn ⊢
  have HN := Lib.hid hN
  clear hN
  go_enter Try.func38, Try.ntmps38
  go_wp2
  go_loop [3, 4] (fun vn vi => ∃ k m : Nat, vi = .int .i64 k ∧ vn = .int .u64 m ∧ k ≤ s.size ∧ m < 255 ∧ Hid (m = wilds (s.data.toList.take k))) (fun _ vi => s.size - (RowKit.intOf vi).toNat)
  case atStart => exact ⟨0, 0, rfl, rfl, by omega, by omega, rfl⟩
  case round =>
    obtain ⟨k, m, rfl, rfl, hk, hm, HM⟩ := hrel
    by_cases hlt : k < s.size
    · have hT : (k : Int) < (s.size : Int) := by omega
      have hat : s.data.toList[k]? = some (s[k]'hlt) := Pa.at_eq s k hlt
      have hsn := wilds_take_succ _ k _ hat
      rw [← HM.out] at hsn
      have hle := wilds_take_le s.data.toList (k + 1)
      rw [HN.out, hsn] at hle
      have HS := Lib.hid hsn
      clear hsn hat
      by_cases h1 : (s[k]'hlt) = 58
      · have t1 : (((s[k]'hlt).toNat : Int) != 58) = false := by rw [h1]; rfl
        have HS2 : Hid (m + 1 = wilds (s.data.toList.take (k + 1))) := by show _ = _; rw [HS.out, if_pos (.inl h1)]
        rw [if_pos (.inl h1)] at hle
        have hm2 : m + 1 < 255 := by omega
        clear h1 hle
        go_wp2
        go_round
        case rel => exact ⟨k + 1, m + 1, by go_num, by go_num, by omega, hm2, HS2⟩
        case measure => simp [RowKit.intOf]; omega
      · have t1 : (((s[k]'hlt).toNat : Int) != 58) = true := by
          have := beq_u8 (s[k]'hlt) 58
          rw [bne, show ((58 : Int)) = ((58 : UInt8).toNat : Int) from rfl, this]; simpa using h1
        by_cases h2 : (s[k]'hlt) = 42
        · have t2 : (((s[k]'hlt).toNat : Int) != 42) = false := by rw [h2]; rfl
          have HS2 : Hid (m + 1 = wilds (s.data.toList.take (k + 1))) := by show _ = _; rw [HS.out, if_pos (.inr h2)]
          rw [if_pos (.inr h2)] at hle
          have hm2 : m + 1 < 255 := by omega
          clear h2 hle
          go_wp2
          go_round
          case rel => exact ⟨k + 1, m + 1, by go_num, by go_num, by omega, hm2, HS2⟩
          case measure => simp [RowKit.intOf]; omega
        · have t2 : (((s[k]'hlt).toNat : Int) != 42) = true := by
            have := beq_u8 (s[k]'hlt) 42
            rw [bne, show ((42 : Int)) = ((42 : UInt8).toNat : Int) from rfl, this]; simpa using h2
          have HS2 : Hid (m = wilds (s.data.toList.take (k + 1))) := by show _ = _; rw [HS.out, if_neg (by rintro (e | e); exact h1 e; exact h2 e)]; rfl
          clear hle
          go_wp2
          go_round
          case rel => exact ⟨k + 1, m, by go_num, rfl, by omega, hm, HS2⟩
          case measure => simp [RowKit.intOf]; omega
    · have hT : ¬ (k : Int) < (s.size : Int) := by omega
      have HF : Hid (N = m) := by show _ = _; rw [HM.out, List.take_of_length_le (by rw [← Lib.size_eq]; omega), HN.out]
      have t3 : ¬ (255 : Int) ≤ (m : Int) := by omega
      go_wp2
      go_ret
      exact ⟨by rw [HF.out]; rfl, rfl⟩

/-- zzIndex: -1, or a place at which as many bytes still are; not -1 where the text occurs. -/
def IdxPost (s sub : ByteArray) (w : World) (e : Ending) (w' : World) : Prop :=
  ∃ k : Int, e = .returned (.int .i64 k) ∧ w = w' ∧ (k = -1 ∨ 0 ≤ k ∧ k + sub.size ≤ s.size) ∧ ((∃ A B, s.data.toList = A ++ (sub.data.toList ++ B)) → k ≠ -1)

theorem extract_eq_of (s sub : ByteArray) (A B : List UInt8) (h : s.data.toList = A ++ (sub.data.toList ++ B)) : s.extract A.length (A.length + sub.size) = sub := by
  have : (s.extract A.length (A.length + sub.size)).data.toList = sub.data.toList := by
    rw [Lib.extract_data, h, List.drop_left, Nat.add_sub_cancel_left, Lib.size_eq, List.take_left']
    rfl
  exact ByteArray.ext (Array.ext' this)

set_option maxHeartbeats 1000000 in
set_option maxRecDepth 100000 in
theorem zzIndex_any (s sub : ByteArray) (w : World) (hs : s.size ≤ 2147483647) (hsub : sub.size ≤ 2147483647) :
    Calls Try.prog 40 #[.string s, .string sub] w (IdxPost s sub w) := by
  go_enter Try.func40, Try.ntmps40
  go_wp2
  go_loop [5] (fun vi => ∃ k : Nat, vi = .int .i64 k ∧ k ≤ s.size + 1 ∧ Hid (∀ j, j < k → s.extract j (j + sub.size) ≠ sub)) (fun vi => s.size + 1 - (RowKit.intOf vi).toNat)
  case atStart => exact ⟨0, rfl, by omega, fun j hj => by omega⟩
  case round =>
    obtain ⟨k, rfl, hk, HM⟩ := hrel
    by_cases hlt : k + sub.size ≤ s.size
    · have hT : (k : Int) + (sub.size : Int) ≤ (s.size : Int) := by omega
      have b1 : (k : Int) ≤ (k : Int) + (sub.size : Int) := by omega
      by_cases hx : ((s.extract k (k + sub.size)).toList == sub.toList) = true
      · go_wp2
        (try simp only [Exit.inBlock, Exit.then]); refine bodyPost_ret (v := .int .i64 (k : Int)) (by simp [results, Try.results40, go_sem]) rfl ?_
        exact ⟨k, rfl, rfl, .inr ⟨by omega, hT⟩, fun _ => by omega⟩
      · have hx' : ((s.extract k (k + sub.size)).toList == sub.toList) = false := by simpa using hx
        have HM2 : Hid (∀ j, j < k + 1 → s.extract j (j + sub.size) ≠ sub) := by
          intro j hj
          by_cases e : j = k
          · subst e; intro h; rw [h] at hx; simp at hx
          · exact HM.out j (by omega)
        clear hx
        go_wp2
        go_round
        case rel => exact ⟨k + 1, by go_num, by omega, HM2⟩
        case measure => simp [RowKit.intOf]; omega
    · have hT : ¬ (k : Int) + (sub.size : Int) ≤ (s.size : Int) := by omega
      go_wp2
      go_ret
      refine ⟨-1, rfl, rfl, .inl rfl, ?_⟩
      rintro ⟨A, B, h⟩ _
      have h1 := congrArg List.length h
      simp only [List.length_append, ← Lib.size_eq] at h1
      exact HM.out A.length (by omega) (extract_eq_of s sub A B h)

end Go.Proofs.Ytcobbbbnmepmfaa
