/- The texts of routes: the reference's Paths. -/
import Derived.Test.YtcobbbbnmepmfaaPaths
import Derived.Test.YtcobbbbnmepmfaaTreeOf
import Derived.OwnWalk
import Derived.KernelRfl
import Derived.Laws.AppendOwn
import Derived.Deep.AppendLies
namespace Go.Proofs.Ytcobbbbnmepmfaa
open Go Go.RowKit Go.Lib Tr

def strV (P : List ByteArray) : List Value := P.map Value.string
theorem strV_append (P : List ByteArray) (x : ByteArray) : strV (P ++ [x]) = strV P ++ [.string x] := by simp [strV]
theorem cell_one_new (w : World) (v : Value) (ty : TypeId) : ∀ j u, [v][j]? = some u → (w.alloc (.cells #[v] ty)).cell? ((⟨w.heap.size, 0, none⟩ : Addr).add j) = some u := by
  intro j u hj
  have hj0 : j = 0 := by
    have := (List.getElem?_eq_some_iff.1 hj).1
    simpa using this
  subst hj0
  rw [Addr.add_lit, ← Option.some.inj hj]
  exact cell_of_row8 (alloc_at _ _) 0

theorem ownsRow_below {w w' : World} {base B : Nat} {e : TypeId} {size : Nat} {v : Value} {n : Nat} {xs : List Value} (h : w.ownsRow base e size v n xs) (hb : Below B w w') (hB : w.heap.size ≤ B) : w'.ownsRow base e size v n xs := by
  obtain ⟨h1, h2 | ⟨g, cap, cur, e1, e2, e3, e4⟩⟩ := h
  · exact ⟨h1, .inl h2⟩
  · have hlt : g < w.heap.size := (Array.getElem?_eq_some_iff.1 e3).1
    exact ⟨h1, .inr ⟨g, cap, cur, e1, e2, by rw [hb.block g (by omega)]; exact e3, e4⟩⟩

/-- What Paths comes to. -/
def PathsPost (L : List (List (Int × ByteArray))) (w : World) (e : Ending) (w' : World) : Prop :=
  ∃ (P : List ByteArray) (g cap : Nat), e = .returned (.slice (some ⟨g, 0, none⟩) P.length cap) ∧ P.length = L.length ∧ StrCells w' (some ⟨g, 0, none⟩) P ∧ (∀ (i : Nat) p l, P[i]? = some p → L[i]? = some l → p.data.toList = enc (tokR l) ∧ p.size ≤ 320) ∧ Below w.heap.size w w'

set_option maxHeartbeats 8000000 in
set_option maxRecDepth 100000 in
theorem paths_any (a : Option Addr) (L : List (List (Int × ByteArray))) (c : Nat) (w : World) (hs : RowsRaw w a L) (hf : RowsFit L) (hr : RowsOk L) :
    Calls Try.prog 11 #[.slice a L.length c] w (PathsPost L w) := by
  have hinfo : (Try.prog.info? 9).map (fun i => (i.zero, i.size, i.bytes)) = some (some (.string ByteArray.empty), 1, 16) := by kernel_rfl
  obtain ⟨i0, hi, hz0, hz1, hz2⟩ := info_parts hinfo
  have HS := Lib.hid hs
  have HF := Lib.hid hf
  have HR := Lib.hid hr
  have hll : L.length ≤ 20 := hr.1
  clear hs hf hr
  go_enter Try.func11, Try.ntmps11
  go_wp2
  go_loopw [3, 9] (fun vo vi wr => ∃ (i : Nat) (P : List ByteArray) (g cap : Nat), vo = .slice (some ⟨g, 0, none⟩) i cap ∧ vi = .int .i64 i ∧ i ≤ L.length ∧ Hid (P.length = i) ∧ Hid (wr.ownsRow w.heap.size 9 1 (.slice (some ⟨g, 0, none⟩) i cap) i (strV P)) ∧ Hid (∀ (j : Nat) p l, P[j]? = some p → L[j]? = some l → p.data.toList = enc (tokR l) ∧ p.size ≤ 320) ∧ Hid (Below w.heap.size w wr)) (fun _ vi _ => L.length - (RowKit.intOf vi).toNat)
  case atStart => exact ⟨0, [], w.heap.size, 0, rfl, rfl, by omega, (by show _ = _; rfl), (by show World.ownsRow _ _ _ _ _ _ _; exact World.ownsRow_made w #[] 0 (Nat.le_refl _) (by unfold maxLen; omega) rfl), (fun j p l h => by simp at h), (Below.refl _ w).alloc (Nat.le_refl _) _⟩
  case round =>
    obtain ⟨i, P, g, cap, rfl, rfl, hi', HPLEN, hown, HO, HB⟩ := hrel
    by_cases hlt : i < L.length
    · have hT : (i : Int) < (L.length : Int) := by omega
      obtain ⟨l, hl⟩ : ∃ l, L[i]? = some l := ⟨_, List.getElem?_eq_getElem hlt⟩
      obtain ⟨b, o, rfl, hb, hcs⟩ : ∃ b o, a = some ⟨b, o, none⟩ ∧ b < w.heap.size ∧ ∀ (i : Nat) l, L[i]? = some l → ∃ A C, w.cell? ⟨b, o + i, none⟩ = some (.slice A l.length C) ∧ SegRaw w A l := by
        rcases HS.out with rfl | h
        · simp at hlt
        · exact h
      obtain ⟨A, C, c0, hraw⟩ := hcs i l hl
      have c0' : wr.cell? ⟨b, o + i, none⟩ = some (.slice A l.length C) := by rw [HB.out.cell (by exact hb)]; exact c0
      have hraw' := (hraw.below HB.out (Nat.le_refl _) HB.out.size).cells (HF.out.2 i l hl)
      have HC := Lib.hid (path_any A l C wr hraw' (HR.out.2 i l hl))
      have HLI := Lib.hid hl
      have hi20 : i ≤ 20 := by omega
      have HBS : Hid (w.heap.size ≤ wr.heap.size) := HB.out.size
      clear hcs hl c0 hraw hraw'
      go_wp2_with (first | (go_at_call 21; refine HC.out.mono ?_; rintro e w1 ⟨p, rfl, hp, hps, hb1⟩; (have HP := Lib.hid hp); (have HB1 := Lib.hid hb1); (have HOW := Lib.hid (ownsRow_below hown.out hb1 (Nat.le_refl _))); clear hp hb1) | (at_builtin; refine wpList_append_own _ rfl _ _ 25 rfl w.heap.size 9 i0 (.string ByteArray.empty) 1 16 Try.underlying25 hi hz0 hz1 hz2 rfl (by decide) _ _ _ rfl (HOW.out.alloc _) ⟨w1.heap.size, 0, none⟩ 1 1 [.string p] rfl rfl ?newcell ?newone ?maxl ?byts ?bas ?onward))
      case newcell => exact cell_one_new _ _ _
      case newone => intro u hu; rw [List.mem_singleton.1 hu]; rfl
      case maxl => unfold maxLen; omega
      case byts => omega
      case bas => have := HBS.out; have := HB1.out.size; simp; omega
      case onward =>
        intro v' w2 hown' hgrow _
        obtain ⟨g2, cap2, rfl, _, _⟩ := World.ownsRow.form hown' (by omega)
        have HO2 : Hid (w2.ownsRow w.heap.size 9 1 (.slice (some ⟨g2, 0, none⟩) (i + 1) cap2) (i + 1) (strV (P ++ [p]))) := by
          show World.ownsRow _ _ _ _ _ _ _
          rw [strV_append]; exact hown'
        have HBN : Hid (Below w.heap.size w w2) := (((HB.out.trans (HB1.out.mono HBS.out))).alloc (by have := HBS.out; have := HB1.out.size; omega) _).grown hgrow (by have := HBS.out; have := HB1.out.size; simp; omega) (fun k hk => (HOW.out.lt k hk).1)
        have HN : Hid (∀ (j : Nat) q l, (P ++ [p])[j]? = some q → L[j]? = some l → q.data.toList = enc (tokR l) ∧ q.size ≤ 320) := by
          intro j q l' hj hl'
          by_cases hjP : j < P.length
          · rw [List.getElem?_append_left hjP] at hj
            exact HO.out j q l' hj hl'
          · have hjl := (List.getElem?_eq_some_iff.1 hj).1
            rw [List.length_append, List.length_singleton] at hjl
            have hjP' : j = P.length := by omega
            rw [hjP', List.getElem?_append_right (Nat.le_refl _), Nat.sub_self] at hj
            have hq : p = q := by simpa using hj
            subst hq
            rw [hjP', HPLEN.out, HLI.out] at hl'
            rw [← Option.some.inj hl']
            exact ⟨HP.out, hps⟩
        have HLN : Hid ((P ++ [p]).length = i + 1) := by show _ = _; rw [List.length_append, HPLEN.out]; rfl
        clear hown' hgrow
        go_wp2
        go_roundw
        case rel => exact ⟨i + 1, P ++ [p], g2, cap2, rfl, by go_num, by omega, HLN, HO2, HN, HBN⟩
        case measure => simp [RowKit.intOf]; omega
    · have hT : ¬ (i : Int) < (L.length : Int) := by omega
      have HFIN : Hid (PathsPost L w (.returned (.slice (some ⟨g, 0, none⟩) i cap)) wr) := by
        have hPl := HPLEN.out
        refine ⟨P, g, cap, by rw [hPl], by omega, ?_, HO.out, HB.out⟩
        by_cases hP : P = []
        · exact .inl hP
        · refine .inr ⟨g, 0, rfl, (hown.out.lt g rfl).2, fun j p hj => ?_⟩
          have hjl : j < P.length := (List.getElem?_eq_some_iff.1 hj).1
          rw [Nat.zero_add, hown.out.cellAt j (by omega)]
          simp [strV, hj]
      go_wp2
      go_ret
      exact HFIN.out

end Go.Proofs.Ytcobbbbnmepmfaa
