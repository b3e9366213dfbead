/- Which routes can be registered: the reference's Built. -/
import Derived.Test.YtcobbbbnmepmfaaConfl
namespace Go.Proofs.Ytcobbbbnmepmfaa
open Go Go.RowKit Go.Lib Tr

def BuiltPost (L : List (List (Int × ByteArray))) (w : World) (e : Ending) (w' : World) : Prop := ∃ m : Nat, FirstBad (L.map tokR) m ∧ e = .returned (.int .i64 (m : Int)) ∧ Below w.heap.size w w'

theorem bad_rl {T : List (List Tok)} {s : List Tok} : Bad (rl T) s ↔ ∃ (j : Nat) (r : List Tok), T[j]? = some r ∧ conf r s = true := by
  constructor
  · rintro ⟨r, hr, hc⟩
    exact ⟨r.2, r.1, mem_rl hr, hc⟩
  · rintro ⟨j, r, hj, hc⟩
    refine ⟨(r, j), ?_, hc⟩
    rw [rl, List.mem_reverse]
    exact List.mem_zipIdx_iff_getElem?.2 hj

set_option maxHeartbeats 8000000 in
set_option maxRecDepth 100000 in
theorem built_any (a : Option Addr) (L : List (List (Int × ByteArray))) (c : Nat) (w : World) (hs : RowsRaw w a L) (hf : RowsFit L) (hr : RowsOk L) (hcap : L.length ≤ c) :
    Calls Try.prog 12 #[.slice a L.length c] w (BuiltPost L w) := by
  have HS := Lib.hid hs
  have HF := Lib.hid hf
  have HR := Lib.hid hr
  have hll : L.length ≤ 20 := hr.1
  obtain ⟨n, hn⟩ : ∃ x, L.length = x := ⟨_, rfl⟩
  rw [hn] at hll hcap ⊢
  have HN := Lib.hid hn
  clear hs hf hr hn
  go_enter Try.func12, Try.ntmps12
  go_wp2
  go_loopw [7] (fun vi wr => ∃ i : Nat, vi = .int .i64 i ∧ i ≤ n ∧ Hid (∀ (j : Nat) s, j < i → (L.map tokR)[j]? = some s → ¬ Bad (rl ((L.map tokR).take j)) s) ∧ Hid (Below w.heap.size w wr)) (fun vi _ => n - (RowKit.intOf vi).toNat)
  case atStart => exact ⟨0, rfl, by omega, (fun j s hj => by omega), Below.refl _ _⟩
  case round =>
    obtain ⟨i, rfl, hi, HOK, HB⟩ := hrel
    by_cases hlt : i < n
    · have hT : (i : Int) < (n : Int) := by omega
      have hT2 : (i : Int) ≤ (n : Int) := by omega
      have hT3 : (i : Int) ≤ (c : Int) := by omega
      obtain ⟨l, hl⟩ : ∃ l, L[i]? = some l := ⟨_, List.getElem?_eq_getElem (by rw [HN.out]; exact hlt)⟩
      obtain ⟨b, o, rfl, hb, hcs⟩ : ∃ b o, a = some ⟨b, o, none⟩ ∧ b < w.heap.size ∧ ∀ (i : Nat) l, L[i]? = some l → ∃ A C, w.cell? ⟨b, o + i, none⟩ = some (.slice A l.length C) ∧ SegRaw w A l := by
        rcases HS.out with h | h
        · rw [h] at hl; cases hl
        · exact h
      obtain ⟨A, C, c0, hraw⟩ := hcs i l hl
      have HRAW := Lib.hid hraw
      have HLI := Lib.hid hl
      have HC0 := Lib.hid c0
      have HCS := Lib.hid hcs
      clear hraw hl c0 hcs
      go_wp2
      go_loopw [14] (fun vk wx => ∃ k : Nat, vk = .int .i64 k ∧ k ≤ i ∧ Hid (∀ (j : Nat) l', j < k → L[j]? = some l' → conf (tokR l') (tokR l) = false) ∧ Hid (Below w.heap.size w wx)) (fun vk _ => i - (RowKit.intOf vk).toNat)
      case atStart => exact ⟨0, rfl, by omega, (fun j l' hj => by omega), HB⟩
      case round =>
        obtain ⟨k, rfl, hk, HM, HB2⟩ := hrel
        by_cases hkl : k < i
        · have tK : (k : Int) < (i : Int) := by omega
          have tK2 : (k : Int) < (n : Int) := by omega
          obtain ⟨l', hl'⟩ : ∃ l, L[k]? = some l := ⟨_, List.getElem?_eq_getElem (by rw [HN.out]; omega)⟩
          obtain ⟨A', C', c0', hraw'⟩ := HCS.out k l' hl'
          have d0 : wr.cell? ⟨b, o + i, none⟩ = some (.slice A l.length C) := by rw [HB2.out.cell (by exact hb)]; exact HC0.out
          have d1 : wr.cell? ⟨b, o + k, none⟩ = some (.slice A' l'.length C') := by rw [HB2.out.cell (by exact hb)]; exact c0'
          have hs1 := (hraw'.below HB2.out (Nat.le_refl _) HB2.out.size).cells (HF.out.2 k l' hl')
          have hs2 := (HRAW.out.below HB2.out (Nat.le_refl _) HB2.out.size).cells (HF.out.2 i l HLI.out)
          have hrk := HR.out.2 k l' hl'
          have hri := HR.out.2 i l HLI.out
          have hq : ∀ (A1 A2 : Option Addr) (w1 : World) (C1 C2 : Nat), SegCells w1 A1 l' → SegCells w1 A2 l → Calls Try.prog 26 #[.slice A1 l'.length C1, .slice A2 l.length C2] w1 (ConflPost l' l w1) := fun A1 A2 w1 C1 C2 h1 h2 => conflict_any A1 A2 l' l C1 C2 w1 h1 h2 hrk.2.1 hri.2.1
          have HQ : Hid (Calls Try.prog 26 #[.slice A' l'.length C', .slice A l.length C] wr.drew (ConflPost l' l wr)) := (hq A' A wr.drew C' C hs1 hs2).mono (by rintro e w' ⟨h1, h2⟩; exact ⟨h1, ⟨h2.os, h2.tape, h2.output, h2.size, h2.block⟩⟩)
          have hconf : confL l' l = conf (tokR l') (tokR l) := (conf_tokR l' l hrk.segs hri.segs).symm
          have HYES : Hid (confL l' l = true → ∀ w', Below wr.heap.size wr w' → BuiltPost L w (.returned (.int .i64 (i : Int))) w') := by
            intro hy w' hbw
            refine ⟨i, ⟨by rw [List.length_map, HN.out]; exact hi, HOK.out, fun s hs => ?_⟩, rfl, HB2.out.trans (hbw.mono HB2.out.size)⟩
            rw [List.getElem?_map, HLI.out] at hs
            obtain rfl := Option.some.inj hs
            rw [bad_rl]
            refine ⟨k, tokR l', ?_, by rw [← hconf]; exact hy⟩
            rw [List.getElem?_take_of_lt hkl, List.getElem?_map, hl']; rfl
          have HNO : Hid (confL l' l = false → ∀ (j : Nat) l', j < k + 1 → L[j]? = some l' → conf (tokR l') (tokR l) = false) := by
            intro hn j l2 hj hl2
            by_cases e : j = k
            · subst e
              rw [hl'] at hl2
              rw [← Option.some.inj hl2, ← hconf]; exact hn
            · exact HM.out j l2 (by omega) hl2
          have HBX : Hid (∀ w', Below wr.heap.size wr w' → Below w.heap.size w w') := fun w' hbw => HB2.out.trans (hbw.mono HB2.out.size)
          clear hq hconf hs1 hs2 hrk hri hraw' c0' hl'
          unfold ConflPost at HQ
          cases hcl : confL l' l with
          | true =>
            rw [hcl] at HQ
            have HYES2 := Lib.hid (HYES.out hcl)
            clear hcl
            go_wp2
            go_region_with (first | (go_at_call 26; refine HQ.out.mono ?_; rintro e w' ⟨rfl, hbw⟩))
            all_goals go_wp2
            all_goals refine bodyPost_ret (v := .int .i64 (i : Int)) (by simp [results, Try.results12, go_sem]) rfl ?_
            all_goals exact HYES2.out _ hbw
          | false =>
            rw [hcl] at HQ
            have HNO2 := Lib.hid (HNO.out hcl)
            clear hcl
            go_wp2
            go_region_with (first | (go_at_call 26; refine HQ.out.mono ?_; rintro e w' ⟨rfl, hbw⟩))
            all_goals go_wp2
            · go_roundw
              case rel => exact ⟨k + 1, by go_num, by omega, HNO2.out, HBX.out _ hbw⟩
              case measure => simp [RowKit.intOf]; omega
            · go_roundw
              case rel => exact ⟨k + 1, by go_num, by omega, HNO2.out, HBX.out _ hbw⟩
              case measure => simp [RowKit.intOf]; omega
        · have tK : ¬ (k : Int) < (i : Int) := by omega
          have HOK2 : Hid (∀ (j : Nat) s, j < i + 1 → (L.map tokR)[j]? = some s → ¬ Bad (rl ((L.map tokR).take j)) s) := by
            intro j s hj hs
            by_cases e : j = i
            · subst e
              rw [List.getElem?_map, HLI.out] at hs
              obtain rfl := Option.some.inj hs
              rw [bad_rl]
              rintro ⟨j2, r, hj2, hc⟩
              have hj3 : j2 < ((L.map tokR).take j).length := (List.getElem?_eq_some_iff.1 hj2).1
              rw [List.length_take] at hj3
              rw [List.getElem?_take_of_lt (by omega), List.getElem?_map] at hj2
              cases hl2 : L[j2]? with
              | none => rw [hl2] at hj2; cases hj2
              | some l2 =>
                rw [hl2] at hj2
                have : tokR l2 = r := Option.some.inj hj2
                rw [← this, HM.out j2 l2 (by omega) hl2] at hc
                cases hc
            · exact HOK.out j s (by omega) hs
          go_wp2
          go_roundw
          case rel => exact ⟨i + 1, by go_num, by omega, HOK2.out, HB2.out⟩
          case measure => simp [RowKit.intOf]; omega
    · have hT : ¬ (i : Int) < (n : Int) := by omega
      have HFIN : Hid (BuiltPost L w (.returned (.int .i64 (n : Int))) wr) := by
        have hin : i = n := by omega
        subst hin
        refine ⟨i, ⟨by rw [List.length_map, HN.out]; exact Nat.le_refl _, HOK.out, fun s hs => ?_⟩, rfl, HB.out⟩
        have := (List.getElem?_eq_some_iff.1 hs).1
        rw [List.length_map, HN.out] at this
        omega
      go_wp2
      go_ret
      exact HFIN.out

end Go.Proofs.Ytcobbbbnmepmfaa
