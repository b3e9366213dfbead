/- Which routes can't stand together: the reference's Conflict, Built. -/
import Derived.Test.YtcobbbbnmepmfaaSegs
import Derived.Test.YtcobbbbnmepmfaaTreeOf
import Derived.Deep.QuietTactic
import Derived.BigQuiet
import Derived.BigRegion
import Derived.Deep.RegionHeld3
namespace Go.Proofs.Ytcobbbbnmepmfaa
open Go Go.RowKit Go.Lib Tr

def ConflPost (la lb : List (Int × ByteArray)) (w : World) (e : Ending) (w' : World) : Prop := e = .returned (.bool (confL la lb)) ∧ Below w.heap.size w w'

set_option maxHeartbeats 8000000 in
set_option maxRecDepth 100000 in
theorem conflict_any (a b : Option Addr) (la lb : List (Int × ByteArray)) (ca cb : Nat) (w : World) (ha : SegCells w a la) (hb : SegCells w b lb) (hla : la.length ≤ 10) (hlb : lb.length ≤ 10) :
    Calls Try.prog 26 #[.slice a la.length ca, .slice b lb.length cb] w (ConflPost la lb w) := by
  have HA := Lib.hid ha
  have HB := Lib.hid hb
  clear ha hb
  obtain ⟨B0, hB0⟩ : ∃ B0, confL la lb = B0 := ⟨_, rfl⟩
  have HB0 := Lib.hid hB0
  obtain ⟨na, hna⟩ : ∃ x, la.length = x := ⟨_, rfl⟩
  obtain ⟨nb, hnb⟩ : ∃ x, lb.length = x := ⟨_, rfl⟩
  unfold ConflPost
  rw [hna, hnb, hB0]
  rw [hna] at hla
  rw [hnb] at hlb
  have HNA := Lib.hid hna
  have HNB := Lib.hid hnb
  clear hB0 hna hnb
  go_enter Try.func26, Try.ntmps26
  go_wp2
  go_loopw [5] (fun vi wr => ∃ i : Nat, vi = .int .i64 i ∧ i ≤ na ∧ i ≤ nb ∧ Hid (Below w.heap.size w wr) ∧ Hid (confL (la.drop i) (lb.drop i) = B0)) (fun vi _ => na - (RowKit.intOf vi).toNat)
  case atStart => exact ⟨0, rfl, by omega, by omega, Below.refl _ _, HB0⟩
  case round =>
    obtain ⟨i, rfl, hia, hib, HBE, HC⟩ := hrel
    have HEND : Hid (i = na ∨ i = nb → B0 = ((na : Int) == (nb : Int))) := by
      intro hor
      have h := HC.out
      rw [← h]
      have e1 : (la.drop i).length = na - i := by rw [List.length_drop, HNA.out]
      have e2 : (lb.drop i).length = nb - i := by rw [List.length_drop, HNB.out]
      rcases hda : la.drop i with _ | ⟨x, ra⟩ <;> rcases hdb : lb.drop i with _ | ⟨y, rb⟩ <;> rw [hda] at e1 <;> rw [hdb] at e2 <;> simp only [List.length_nil, List.length_cons] at e1 e2
      · have : na = nb := by omega
        rw [this]; simp [confL]
      · have : ¬ (na : Int) = (nb : Int) := by omega
        simp [confL, this]
      · have : ¬ (na : Int) = (nb : Int) := by omega
        simp [confL, this]
      · omega
    by_cases h1 : i < na
    · have t1 : (i : Int) < (na : Int) := by omega
      by_cases h2 : i < nb
      · have t2 : (i : Int) < (nb : Int) := by omega
        obtain ⟨k1, x1, hx1⟩ : ∃ k t, la[i]? = some (k, t) := ⟨_, _, by rw [List.getElem?_eq_getElem (by rw [HNA.out]; exact h1)]⟩
        obtain ⟨k2, x2, hx2⟩ : ∃ k t, lb[i]? = some (k, t) := ⟨_, _, by rw [List.getElem?_eq_getElem (by rw [HNB.out]; exact h2)]⟩
        obtain ⟨b1, o1, rfl, hb1, hcs1⟩ : ∃ b o, a = some ⟨b, o, none⟩ ∧ b < w.heap.size ∧ ∀ (i : Nat) k t, la[i]? = some (k, t) → w.cell? ⟨b, o + i * 2, none⟩ = some (.int .i64 k) ∧ w.cell? ⟨b, o + i * 2 + 1, none⟩ = some (.string t) ∧ t.size ≤ 2147483647 := by
          rcases HA.out with h | h
          · rw [h] at hx1; cases hx1
          · exact h
        obtain ⟨b2, o2, rfl, hb2, hcs2⟩ : ∃ b' o, b = some ⟨b', o, none⟩ ∧ b' < w.heap.size ∧ ∀ (i : Nat) k t, lb[i]? = some (k, t) → w.cell? ⟨b', o + i * 2, none⟩ = some (.int .i64 k) ∧ w.cell? ⟨b', o + i * 2 + 1, none⟩ = some (.string t) ∧ t.size ≤ 2147483647 := by
          rcases HB.out with h | h
          · rw [h] at hx2; cases hx2
          · exact h
        obtain ⟨c0, c1, _⟩ := hcs1 i k1 x1 hx1
        obtain ⟨e0, e1, _⟩ := hcs2 i k2 x2 hx2
        have c0' : wr.cell? ⟨b1, o1 + i * 2, none⟩ = some (.int .i64 k1) := by rw [HBE.out.cell (by exact hb1)]; exact c0
        have c1' : wr.cell? ⟨b1, o1 + i * 2 + 1, none⟩ = some (.string x1) := by rw [HBE.out.cell (by exact hb1)]; exact c1
        have e0' : wr.cell? ⟨b2, o2 + i * 2, none⟩ = some (.int .i64 k2) := by rw [HBE.out.cell (by exact hb2)]; exact e0
        have e1' : wr.cell? ⟨b2, o2 + i * 2 + 1, none⟩ = some (.string x2) := by rw [HBE.out.cell (by exact hb2)]; exact e1
        have hwr := HBE.out.size
        have hb1' : b1 < wr.heap.size := by omega
        have hb2' : b2 < wr.heap.size := by omega
        have n1 : wr.heap.size ≠ b1 := by omega
        have n2 : wr.heap.size ≠ b2 := by omega
        have n3 : wr.heap.size + 1 ≠ b1 := by omega
        have n4 : wr.heap.size + 1 ≠ b2 := by omega
        have HNXT : Hid (k1 = k2 → x1.toList = x2.toList → confL (la.drop (i + 1)) (lb.drop (i + 1)) = B0) := by
          intro e1 e2
          subst e1
          have e3 : x1 = x2 := by
            rw [Lib.toList_data, Lib.toList_data] at e2
            exact ByteArray.ext (Array.ext' e2)
          subst e3
          have h := HC.out
          obtain ⟨ha1, ha2⟩ := List.getElem?_eq_some_iff.1 hx1
          obtain ⟨hb1, hb2⟩ := List.getElem?_eq_some_iff.1 hx2
          rw [List.drop_eq_getElem_cons ha1, List.drop_eq_getElem_cons hb1, ha2, hb2] at h
          simpa [confL] using h
        have HCV : Hid (¬ (k1 = k2 ∧ x1.toList = x2.toList) → B0 = if k2 < k1 then (if (k1 == 0) = true then false else if k2 = 0 ∧ x2.toList.isEmpty = true then (k1 == 2) else true) else (if (k2 == 0) = true then false else if k1 = 0 ∧ x1.toList.isEmpty = true then (k2 == 2) else true)) := by
          intro hne
          have h := HC.out
          obtain ⟨ha1, ha2⟩ := List.getElem?_eq_some_iff.1 hx1
          obtain ⟨hb1, hb2⟩ := List.getElem?_eq_some_iff.1 hx2
          rw [List.drop_eq_getElem_cons ha1, List.drop_eq_getElem_cons hb1, ha2, hb2] at h
          have hne2 : ¬ ((k1, x1) = (k2, x2)) := by
            intro e
            simp only [Prod.mk.injEq] at e
            exact hne ⟨e.1, by rw [e.2]⟩
          unfold confL at h
          rw [if_neg hne2] at h
          rw [← h]
          have em : ∀ x : ByteArray, (x.data.toList = []) = (x.toList.isEmpty = true) := by
            intro x
            rw [Lib.toList_data, List.isEmpty_iff]
          by_cases hlt : k2 < k1
          · rw [if_pos hlt, if_neg (by show ¬ k1 ≤ k2; omega)]
            simp only [em, beq_iff_eq]
            congr 1
          · rw [if_neg hlt, if_pos (by show k1 ≤ k2; omega)]
            simp only [em, beq_iff_eq]
            congr 1
        have HBB : Hid (∀ o1 o2 q, Below w.heap.size w (((wr.alloc o1).alloc o2).drewN q)) := fun o1 o2 q =>
          ⟨HBE.out.os, HBE.out.tape, HBE.out.output, by have := HBE.out.size; simp; omega, fun k hk => by
            rw [← HBE.out.block k hk]
            show ((wr.alloc o1).alloc o2).heap[k]? = _
            rw [alloc_lt _ _ (by simp; omega), alloc_lt _ _ (by omega)]⟩
        clear hcs1 hcs2 c0 c1 e0 e1 hx1 hx2
        go_wp2
        go_region
        · go_wp2
          case roundEnd =>
            go_roundw
            case rel => exact ⟨i + 1, by go_num, by omega, by omega, HBB.out _ _ 1, HNXT.out (by assumption) (by assumption)⟩
            case measure => simp [RowKit.intOf]; omega
          all_goals go_ret
          all_goals refine ⟨?_, ?_⟩
          all_goals first
            | exact HBB.out _ _ 1
            | (show Ending.returned (Value.bool _) = _; rw [HCV.out (by rintro ⟨e1, e2⟩; first | contradiction | omega)]; first | (simp [*]; done) | (congr 2; simp [*]; omega))
            | (show Ending.returned (Value.bool _) = _; rw [HCV.out (by rintro ⟨e1, e2⟩; first | contradiction | omega)]; have hk0 : ¬ k2 = 0 := by (have hk1 : (k2 == 0) = false := by assumption); simpa using hk1
               simp [*])
        · go_wp2
          case roundEnd =>
            go_roundw
            case rel => exact ⟨i + 1, by go_num, by omega, by omega, HBB.out _ _ 1, HNXT.out (by assumption) (by assumption)⟩
            case measure => simp [RowKit.intOf]; omega
          all_goals go_ret
          all_goals refine ⟨?_, ?_⟩
          all_goals first
            | exact HBB.out _ _ 1
            | (show Ending.returned (Value.bool _) = _; rw [HCV.out (by rintro ⟨e1, e2⟩; first | contradiction | omega)]; first | (simp [*]; done) | (congr 2; simp [*]; omega))
            | (show Ending.returned (Value.bool _) = _; rw [HCV.out (by rintro ⟨e1, e2⟩; first | contradiction | omega)]; have hk0 : ¬ k2 = 0 := by (have hk1 : (k2 == 0) = false := by assumption); simpa using hk1
               simp [*])
      · have t2 : ¬ (i : Int) < (nb : Int) := by omega
        have HF : Hid (B0 = ((na : Int) == (nb : Int))) := HEND.out (.inr (by omega))
        go_wp2
        go_ret
        exact ⟨by rw [HF.out]; rfl, HBE.out⟩
    · have t1 : ¬ (i : Int) < (na : Int) := by omega
      have HF : Hid (B0 = ((na : Int) == (nb : Int))) := HEND.out (.inl (by omega))
      go_wp2
      go_ret
      exact ⟨by rw [HF.out]; rfl, HBE.out⟩

end Go.Proofs.Ytcobbbbnmepmfaa
