/- What a text of a route may hold: the reference's isText. -/
import Derived.Test.YtcobbbbnmepmfaaSmall
namespace Go.Proofs.Ytcobbbbnmepmfaa
open Go.RowKit Go.Lib

def okc (c : UInt8) : Bool := (97 ≤ c && c ≤ 122) || (65 ≤ c && c ≤ 90) || (48 ≤ c && c ≤ 57) || c == 46 || c == 45 || c == 95

def txt (l : List UInt8) : Bool := l.all okc && decide (l.length ≤ 30)

theorem okc_cases (c : UInt8) : (okc c = true ∧ ((97 ≤ c.toNat ∧ c.toNat ≤ 122) ∨ (65 ≤ c.toNat ∧ c.toNat ≤ 90) ∨ (48 ≤ c.toNat ∧ c.toNat ≤ 57) ∨ c.toNat = 46 ∨ c.toNat = 45 ∨ c.toNat = 95)) ∨
    (okc c = false ∧ (c.toNat ≤ 44 ∨ c.toNat = 47 ∨ (58 ≤ c.toNat ∧ c.toNat ≤ 64) ∨ (91 ≤ c.toNat ∧ c.toNat ≤ 94) ∨ c.toNat = 96 ∨ 123 ≤ c.toNat)) := by
  have e : ∀ n : UInt8, (c == n) = decide (c.toNat = n.toNat) := by
    intro n
    rw [Bool.eq_iff_iff]
    simp only [beq_iff_eq, decide_eq_true_eq]
    exact ⟨fun h => by rw [h], fun h => UInt8.toNat_inj.1 h⟩
  have h1 : okc c = (decide (97 ≤ c.toNat ∧ c.toNat ≤ 122) || decide (65 ≤ c.toNat ∧ c.toNat ≤ 90) || decide (48 ≤ c.toNat ∧ c.toNat ≤ 57) || decide (c.toNat = 46) || decide (c.toNat = 45) || decide (c.toNat = 95)) := by
    unfold okc
    rw [e, e, e]
    simp only [UInt8.le_iff_toNat_le, Bool.decide_and]
    rfl
  rw [h1]
  simp only [Bool.or_eq_true, decide_eq_true_eq, Bool.or_eq_false_iff, decide_eq_false_iff_not]
  omega


set_option maxHeartbeats 4000000 in
set_option maxRecDepth 100000 in
theorem isText_any (s : ByteArray) (w : World) (hs : s.size ≤ 2147483647) :
    Calls Try.prog 31 #[.string s] w fun e w' => e = .returned (.bool (txt s.data.toList)) ∧ w = w' := by
  obtain ⟨B, hB⟩ : ∃ B, txt s.data.toList = B := ⟨_, rfl⟩
  rw [hB]
  have HB := Lib.hid hB
  clear hB
  go_enter Try.func31, Try.ntmps31
  go_wp2
  go_loop [3] (fun vi => ∃ k : Nat, vi = .int .i64 k ∧ k ≤ s.size ∧ Hid ((s.data.toList.take k).all okc = true)) (fun vi => s.size - (RowKit.intOf vi).toNat)
  case atStart => exact ⟨0, rfl, by omega, rfl⟩
  case round =>
    obtain ⟨k, rfl, hk, HM⟩ := hrel
    by_cases hlt : k < s.size
    · have hT : (k : Int) < (s.size : Int) := by omega
      have hat : s.data.toList[k]? = some (s[k]'hlt) := Pa.at_eq s k hlt
      have hsn : (s.data.toList.take (k + 1)).all okc = okc (s[k]'hlt) := by
        rw [List.take_add_one, List.all_append, HM.out, hat]
        simp
      rcases okc_cases (s[k]'hlt) with ⟨ho, hc⟩ | ⟨ho, hc⟩
      · have HS : Hid ((s.data.toList.take (k + 1)).all okc = true) := by rw [ho] at hsn; exact hsn
        clear hsn hat ho
        rcases hc with hc | hc | hc | hc | hc | hc
        · as_aux_lemma =>
            have t0 : ¬ ((s[k]'hlt).toNat : Int) < (97 : Int) := by omega
            have t1 : ¬ (122 : Int) < ((s[k]'hlt).toNat : Int) := by omega
            have t2 : ¬ ((s[k]'hlt).toNat : Int) < (65 : Int) := by omega
            have t3 : (90 : Int) < ((s[k]'hlt).toNat : Int) := by omega
            have t4 : ¬ ((s[k]'hlt).toNat : Int) < (48 : Int) := by omega
            have t5 : (57 : Int) < ((s[k]'hlt).toNat : Int) := by omega
            have t6 : (((s[k]'hlt).toNat : Int) != 46) = true := by simp [bne]; omega
            have t7 : (((s[k]'hlt).toNat : Int) != 45) = true := by simp [bne]; omega
            have t8 : (((s[k]'hlt).toNat : Int) != 95) = true := by simp [bne]; omega
            clear hc
            go_wp2
            go_round
            case rel => exact ⟨k + 1, by go_num, by omega, HS⟩
            case measure => simp [RowKit.intOf]; omega
        · as_aux_lemma =>
            have t0 : ((s[k]'hlt).toNat : Int) < (97 : Int) := by omega
            have t1 : ¬ (122 : Int) < ((s[k]'hlt).toNat : Int) := by omega
            have t2 : ¬ ((s[k]'hlt).toNat : Int) < (65 : Int) := by omega
            have t3 : ¬ (90 : Int) < ((s[k]'hlt).toNat : Int) := by omega
            have t4 : ¬ ((s[k]'hlt).toNat : Int) < (48 : Int) := by omega
            have t5 : (57 : Int) < ((s[k]'hlt).toNat : Int) := by omega
            have t6 : (((s[k]'hlt).toNat : Int) != 46) = true := by simp [bne]; omega
            have t7 : (((s[k]'hlt).toNat : Int) != 45) = true := by simp [bne]; omega
            have t8 : (((s[k]'hlt).toNat : Int) != 95) = true := by simp [bne]; omega
            clear hc
            go_wp2
            go_round
            case rel => exact ⟨k + 1, by go_num, by omega, HS⟩
            case measure => simp [RowKit.intOf]; omega
        · as_aux_lemma =>
            have t0 : ((s[k]'hlt).toNat : Int) < (97 : Int) := by omega
            have t1 : ¬ (122 : Int) < ((s[k]'hlt).toNat : Int) := by omega
            have t2 : ((s[k]'hlt).toNat : Int) < (65 : Int) := by omega
            have t3 : ¬ (90 : Int) < ((s[k]'hlt).toNat : Int) := by omega
            have t4 : ¬ ((s[k]'hlt).toNat : Int) < (48 : Int) := by omega
            have t5 : ¬ (57 : Int) < ((s[k]'hlt).toNat : Int) := by omega
            have t6 : (((s[k]'hlt).toNat : Int) != 46) = true := by simp [bne]; omega
            have t7 : (((s[k]'hlt).toNat : Int) != 45) = true := by simp [bne]; omega
            have t8 : (((s[k]'hlt).toNat : Int) != 95) = true := by simp [bne]; omega
            clear hc
            go_wp2
            go_round
            case rel => exact ⟨k + 1, by go_num, by omega, HS⟩
            case measure => simp [RowKit.intOf]; omega
        · as_aux_lemma =>
            have t0 : ((s[k]'hlt).toNat : Int) < (97 : Int) := by omega
            have t1 : ¬ (122 : Int) < ((s[k]'hlt).toNat : Int) := by omega
            have t2 : ((s[k]'hlt).toNat : Int) < (65 : Int) := by omega
            have t3 : ¬ (90 : Int) < ((s[k]'hlt).toNat : Int) := by omega
            have t4 : ((s[k]'hlt).toNat : Int) < (48 : Int) := by omega
            have t5 : ¬ (57 : Int) < ((s[k]'hlt).toNat : Int) := by omega
            have t6 : (((s[k]'hlt).toNat : Int) != 46) = false := by simp [bne]; omega
            have t7 : (((s[k]'hlt).toNat : Int) != 45) = true := by simp [bne]; omega
            have t8 : (((s[k]'hlt).toNat : Int) != 95) = true := by simp [bne]; omega
            clear hc
            go_wp2
            go_round
            case rel => exact ⟨k + 1, by go_num, by omega, HS⟩
            case measure => simp [RowKit.intOf]; omega
        · as_aux_lemma =>
            have t0 : ((s[k]'hlt).toNat : Int) < (97 : Int) := by omega
            have t1 : ¬ (122 : Int) < ((s[k]'hlt).toNat : Int) := by omega
            have t2 : ((s[k]'hlt).toNat : Int) < (65 : Int) := by omega
            have t3 : ¬ (90 : Int) < ((s[k]'hlt).toNat : Int) := by omega
            have t4 : ((s[k]'hlt).toNat : Int) < (48 : Int) := by omega
            have t5 : ¬ (57 : Int) < ((s[k]'hlt).toNat : Int) := by omega
            have t6 : (((s[k]'hlt).toNat : Int) != 46) = true := by simp [bne]; omega
            have t7 : (((s[k]'hlt).toNat : Int) != 45) = false := by simp [bne]; omega
            have t8 : (((s[k]'hlt).toNat : Int) != 95) = true := by simp [bne]; omega
            clear hc
            go_wp2
            go_round
            case rel => exact ⟨k + 1, by go_num, by omega, HS⟩
            case measure => simp [RowKit.intOf]; omega
        · as_aux_lemma =>
            have t0 : ((s[k]'hlt).toNat : Int) < (97 : Int) := by omega
            have t1 : ¬ (122 : Int) < ((s[k]'hlt).toNat : Int) := by omega
            have t2 : ¬ ((s[k]'hlt).toNat : Int) < (65 : Int) := by omega
            have t3 : (90 : Int) < ((s[k]'hlt).toNat : Int) := by omega
            have t4 : ¬ ((s[k]'hlt).toNat : Int) < (48 : Int) := by omega
            have t5 : (57 : Int) < ((s[k]'hlt).toNat : Int) := by omega
            have t6 : (((s[k]'hlt).toNat : Int) != 46) = true := by simp [bne]; omega
            have t7 : (((s[k]'hlt).toNat : Int) != 45) = true := by simp [bne]; omega
            have t8 : (((s[k]'hlt).toNat : Int) != 95) = false := by simp [bne]; omega
            clear hc
            go_wp2
            go_round
            case rel => exact ⟨k + 1, by go_num, by omega, HS⟩
            case measure => simp [RowKit.intOf]; omega
      · have HS : Hid (B = false) := by
          show _ = _
          rw [← HB.out, txt, Bool.and_eq_false_iff]
          left
          have hm : (s[k]'hlt) ∈ s.data.toList := List.mem_of_getElem? hat
          rw [List.all_eq_false]
          exact ⟨_, hm, by rw [ho]; simp⟩
        clear hsn hat ho
        rcases hc with hc | hc | hc | hc | hc | hc
        · as_aux_lemma =>
            have t0 : ((s[k]'hlt).toNat : Int) < (97 : Int) := by omega
            have t1 : ¬ (122 : Int) < ((s[k]'hlt).toNat : Int) := by omega
            have t2 : ((s[k]'hlt).toNat : Int) < (65 : Int) := by omega
            have t3 : ¬ (90 : Int) < ((s[k]'hlt).toNat : Int) := by omega
            have t4 : ((s[k]'hlt).toNat : Int) < (48 : Int) := by omega
            have t5 : ¬ (57 : Int) < ((s[k]'hlt).toNat : Int) := by omega
            have t6 : (((s[k]'hlt).toNat : Int) != 46) = true := by simp [bne]; omega
            have t7 : (((s[k]'hlt).toNat : Int) != 45) = true := by simp [bne]; omega
            have t8 : (((s[k]'hlt).toNat : Int) != 95) = true := by simp [bne]; omega
            clear hc
            go_wp2
            (try simp only [Exit.inBlock, Exit.then])
            refine bodyPost_ret (v := .bool false) (by simp [results, Try.results31, go_sem]) rfl ?_
            exact ⟨by rw [HS.out], rfl⟩
        · as_aux_lemma =>
            have t0 : ((s[k]'hlt).toNat : Int) < (97 : Int) := by omega
            have t1 : ¬ (122 : Int) < ((s[k]'hlt).toNat : Int) := by omega
            have t2 : ((s[k]'hlt).toNat : Int) < (65 : Int) := by omega
            have t3 : ¬ (90 : Int) < ((s[k]'hlt).toNat : Int) := by omega
            have t4 : ((s[k]'hlt).toNat : Int) < (48 : Int) := by omega
            have t5 : ¬ (57 : Int) < ((s[k]'hlt).toNat : Int) := by omega
            have t6 : (((s[k]'hlt).toNat : Int) != 46) = true := by simp [bne]; omega
            have t7 : (((s[k]'hlt).toNat : Int) != 45) = true := by simp [bne]; omega
            have t8 : (((s[k]'hlt).toNat : Int) != 95) = true := by simp [bne]; omega
            clear hc
            go_wp2
            (try simp only [Exit.inBlock, Exit.then])
            refine bodyPost_ret (v := .bool false) (by simp [results, Try.results31, go_sem]) rfl ?_
            exact ⟨by rw [HS.out], rfl⟩
        · as_aux_lemma =>
            have t0 : ((s[k]'hlt).toNat : Int) < (97 : Int) := by omega
            have t1 : ¬ (122 : Int) < ((s[k]'hlt).toNat : Int) := by omega
            have t2 : ((s[k]'hlt).toNat : Int) < (65 : Int) := by omega
            have t3 : ¬ (90 : Int) < ((s[k]'hlt).toNat : Int) := by omega
            have t4 : ¬ ((s[k]'hlt).toNat : Int) < (48 : Int) := by omega
            have t5 : (57 : Int) < ((s[k]'hlt).toNat : Int) := by omega
            have t6 : (((s[k]'hlt).toNat : Int) != 46) = true := by simp [bne]; omega
            have t7 : (((s[k]'hlt).toNat : Int) != 45) = true := by simp [bne]; omega
            have t8 : (((s[k]'hlt).toNat : Int) != 95) = true := by simp [bne]; omega
            clear hc
            go_wp2
            (try simp only [Exit.inBlock, Exit.then])
            refine bodyPost_ret (v := .bool false) (by simp [results, Try.results31, go_sem]) rfl ?_
            exact ⟨by rw [HS.out], rfl⟩
        · as_aux_lemma =>
            have t0 : ((s[k]'hlt).toNat : Int) < (97 : Int) := by omega
            have t1 : ¬ (122 : Int) < ((s[k]'hlt).toNat : Int) := by omega
            have t2 : ¬ ((s[k]'hlt).toNat : Int) < (65 : Int) := by omega
            have t3 : (90 : Int) < ((s[k]'hlt).toNat : Int) := by omega
            have t4 : ¬ ((s[k]'hlt).toNat : Int) < (48 : Int) := by omega
            have t5 : (57 : Int) < ((s[k]'hlt).toNat : Int) := by omega
            have t6 : (((s[k]'hlt).toNat : Int) != 46) = true := by simp [bne]; omega
            have t7 : (((s[k]'hlt).toNat : Int) != 45) = true := by simp [bne]; omega
            have t8 : (((s[k]'hlt).toNat : Int) != 95) = true := by simp [bne]; omega
            clear hc
            go_wp2
            (try simp only [Exit.inBlock, Exit.then])
            refine bodyPost_ret (v := .bool false) (by simp [results, Try.results31, go_sem]) rfl ?_
            exact ⟨by rw [HS.out], rfl⟩
        · as_aux_lemma =>
            have t0 : ((s[k]'hlt).toNat : Int) < (97 : Int) := by omega
            have t1 : ¬ (122 : Int) < ((s[k]'hlt).toNat : Int) := by omega
            have t2 : ¬ ((s[k]'hlt).toNat : Int) < (65 : Int) := by omega
            have t3 : (90 : Int) < ((s[k]'hlt).toNat : Int) := by omega
            have t4 : ¬ ((s[k]'hlt).toNat : Int) < (48 : Int) := by omega
            have t5 : (57 : Int) < ((s[k]'hlt).toNat : Int) := by omega
            have t6 : (((s[k]'hlt).toNat : Int) != 46) = true := by simp [bne]; omega
            have t7 : (((s[k]'hlt).toNat : Int) != 45) = true := by simp [bne]; omega
            have t8 : (((s[k]'hlt).toNat : Int) != 95) = true := by simp [bne]; omega
            clear hc
            go_wp2
            (try simp only [Exit.inBlock, Exit.then])
            refine bodyPost_ret (v := .bool false) (by simp [results, Try.results31, go_sem]) rfl ?_
            exact ⟨by rw [HS.out], rfl⟩
        · as_aux_lemma =>
            have t0 : ¬ ((s[k]'hlt).toNat : Int) < (97 : Int) := by omega
            have t1 : (122 : Int) < ((s[k]'hlt).toNat : Int) := by omega
            have t2 : ¬ ((s[k]'hlt).toNat : Int) < (65 : Int) := by omega
            have t3 : (90 : Int) < ((s[k]'hlt).toNat : Int) := by omega
            have t4 : ¬ ((s[k]'hlt).toNat : Int) < (48 : Int) := by omega
            have t5 : (57 : Int) < ((s[k]'hlt).toNat : Int) := by omega
            have t6 : (((s[k]'hlt).toNat : Int) != 46) = true := by simp [bne]; omega
            have t7 : (((s[k]'hlt).toNat : Int) != 45) = true := by simp [bne]; omega
            have t8 : (((s[k]'hlt).toNat : Int) != 95) = true := by simp [bne]; omega
            clear hc
            go_wp2
            (try simp only [Exit.inBlock, Exit.then])
            refine bodyPost_ret (v := .bool false) (by simp [results, Try.results31, go_sem]) rfl ?_
            exact ⟨by rw [HS.out], rfl⟩
    · have hT : ¬ (k : Int) < (s.size : Int) := by omega
      have hall : s.data.toList.all okc = true := by
        have h1 := HM.out
        rwa [List.take_of_length_le (by rw [← Lib.size_eq]; omega)] at h1
      have HF : Hid (B = decide ((s.size : Int) ≤ 30)) := by
        show _ = _
        rw [← HB.out, txt, hall, Bool.true_and, ← Lib.size_eq]
        exact decide_eq_decide.2 (by omega)
      clear hall
      go_wp2
      go_ret
      exact ⟨by rw [HF.out]; rfl, rfl⟩

end Go.Proofs.Ytcobbbbnmepmfaa
