/- The reference's Clean computes the clean path. -/
import Derived.Test.YtbpcmemnjeaifaaSplit
import Derived.Laws.Strings3
namespace Go.Proofs.Ytbpcmemnjeaifaa
open Go.RowKit Go.Lib

def SpecPost (l : List UInt8) (w : World) (e : Ending) (w' : World) : Prop := e = .returned (.string ⟨(Cp.clean l).toArray⟩) ∧ Below w.heap.size w w'

theorem own_pop {w : World} {base g cap : Nat} {E : List ByteArray} (h : w.ownsRow base 9 1 (.slice (some ⟨g, 0, none⟩) E.length cap) E.length (strV E)) :
    w.ownsRow base 9 1 (.slice (some ⟨g, 0, none⟩) (E.length - 1) cap) (E.length - 1) (strV E.dropLast) := by
  by_cases h0 : E = []
  · subst h0; exact h
  · have he := List.dropLast_concat_getLast h0
    have hl : E.length = (E.length - 1) + 1 := by have := List.length_pos_iff.2 h0; omega
    have h1 : w.ownsRow base 9 1 (.slice (some ⟨g, 0, none⟩) ((E.length - 1) + 1) cap) ((E.length - 1) + 1) (strV E.dropLast ++ [.string (E.getLast h0)]) := by
      rw [← strV_append, he, ← hl]; exact h
    exact ownsRow_pop (by simp [strV]) h1

theorem flat_le : ∀ (P E : List (List UInt8)), (Cp.flat (P.foldl Cp.step E)).length ≤ (Cp.flat E).length + (Cp.flat P).length
  | [], E => by simp [Cp.flat]
  | p :: P, E => by
    have h1 := flat_le P (Cp.step E p)
    have h2 : (Cp.flat (Cp.step E p)).length ≤ (Cp.flat E).length + (p.length + 1) := by
      unfold Cp.step
      split
      · omega
      · split
        · by_cases h0 : E = []
          · subst h0; simp [Cp.flat]
          · have := congrArg Cp.flat (List.dropLast_concat_getLast h0)
            have h3 := congrArg List.length this
            rw [Cp.flat_append] at h3
            simp at h3; omega
        · rw [Cp.flat_append]; simp
    have h3 : (Cp.flat (p :: P)).length = p.length + 1 + (Cp.flat P).length := by simp [Cp.flat]; omega
    rw [List.foldl_cons, h3]
    omega

theorem els_weight (l : List UInt8) : (Cp.flat (Pa.els l)).length = l.length + 1 := by
  induction l with
  | nil => rfl
  | cons c t ih =>
    by_cases h : c = 47
    · subst h
      rw [Cp.els_slash]
      simp only [Cp.flat, List.flatMap_cons, List.length_append, List.length_cons, List.length_nil] at ih ⊢
      omega
    · obtain ⟨e, r, h1, h2⟩ := Cp.els_cons c t h
      rw [h1] at ih
      rw [h2]
      simp only [Cp.flat, List.flatMap_cons, List.length_append, List.length_cons] at ih ⊢
      omega

theorem flat_take (E : List ByteArray) (j : Nat) : (Cp.flat (lists (E.take j))).length ≤ (Cp.flat (lists E)).length := by
  have h : Cp.flat (lists E) = Cp.flat (lists (E.take j)) ++ Cp.flat (lists (E.drop j)) := by
    rw [Cp.flat, Cp.flat, Cp.flat, ← List.flatMap_append, lists, lists, lists, ← List.map_append, List.take_append_drop]
  rw [h]; simp

theorem toArray_of {t : ByteArray} {l : List UInt8} (h : t.data.toList = l) : t = ⟨l.toArray⟩ := by
  subst h; cases t; simp

theorem clean_slash {t z : ByteArray} {l : List UInt8} (ht : t.data.toList = Cp.flat ((Pa.els l).foldl Cp.step [])) (hz : Cp.lastEl l = z.data.toList) (h : t.toList = [] ∨ z.toList = [] ∨ z.toList = [46]) :
    t ++ ⟨#[47]⟩ = ⟨(Cp.clean l).toArray⟩ := by
  apply toArray_of
  rw [Lib.toList_data, Lib.toList_data, ht, ← hz] at h
  rw [Cp.clean, if_pos h, ← ht]
  simp

theorem clean_plain {t z : ByteArray} {l : List UInt8} (ht : t.data.toList = Cp.flat ((Pa.els l).foldl Cp.step [])) (hz : Cp.lastEl l = z.data.toList) (h : ¬ (t.toList = [] ∨ z.toList = [] ∨ z.toList = [46])) :
    t = ⟨(Cp.clean l).toArray⟩ := by
  apply toArray_of
  rw [Lib.toList_data, Lib.toList_data, ht, ← hz] at h
  rw [Cp.clean, if_neg h, ← ht]

set_option maxHeartbeats 4000000 in
set_option maxRecDepth 100000 in
theorem specClean_any (s : ByteArray) (w : World) (hbig : s.size ≤ 2147483647) :
    Calls Try.prog 6 #[.string s] w (SpecPost s.data.toList w) := by
  obtain ⟨i0, hi, hz0, hz1, hz2⟩ := info_parts Try.info9
  have HLEN : Hid (s.data.toList.length = s.size) := (Lib.size_eq s).symm
  go_enter Try.func6, Try.ntmps6
  go_wp2_with fail
  refine (split_any s _ hbig).mono ?_
  rintro e w1 ⟨v, P, rfl, hP, hPl, hown, hb1⟩
  have hP0 : 0 < P.length := by
    have : lists P ≠ [] := by rw [hP]; exact Cp.els_ne _
    cases P with
    | nil => exact absurd rfl this
    | cons a b => simp
  have hex : ∃ g cap, v = .slice (some ⟨g, 0, none⟩) P.length cap := by
    rcases hown.2 with ⟨_, h⟩ | ⟨g, cap, cur, hv, _⟩
    · omega
    · exact ⟨g, cap, hv⟩
  obtain ⟨g, cap, rfl⟩ := hex
  have HP := Lib.hid hP
  have HPL : P.length ≤ s.size + 1 := by rw [HLEN.out] at hPl; exact hPl
  have HOWN := Lib.hid hown
  have HB1 := Lib.hid hb1
  have hgl : Hid (g < w1.heap.size) := (hown.lt g rfl).2
  clear hP hPl hown hb1
  go_wp2
  go_loopw [4, 6, 16] (fun vo vp vi wr => ∃ (k : Nat) (E : List ByteArray) (g2 cap2 : Nat), vi = .int .i64 k ∧ vo = .slice (some ⟨g2, 0, none⟩) E.length cap2 ∧ k ≤ P.length ∧ Hid (lists E = (lists (P.take k)).foldl Cp.step []) ∧ E.length ≤ k ∧ Hid (wr.ownsRow w1.heap.size 9 1 (.slice (some ⟨g2, 0, none⟩) E.length cap2) E.length (strV E)) ∧ Hid (Below w1.heap.size w1 wr)) (fun _ _ vi _ => P.length - (RowKit.intOf vi).toNat)
  case atStart => exact ⟨0, [], w1.heap.size, 0, rfl, rfl, by omega, rfl, Nat.le_refl _, (by show World.ownsRow _ _ _ _ _ _ _; exact World.ownsRow_made w1 #[] 0 (Nat.le_refl _) (by unfold maxLen; omega) rfl), (Below.refl _ w1).alloc (Nat.le_refl _) _⟩
  case round =>
    obtain ⟨k, E, g2, cap2, rfl, rfl, hk, hE, hEl, hown, hbel⟩ := hrel
    by_cases hlt : k < P.length
    · have hT : (k : Int) < (P.length : Int) := by omega
      obtain ⟨x, hx⟩ : ∃ x, P[k]? = some x := ⟨P[k], List.getElem?_eq_getElem hlt⟩
      have hc : wr.cell? ⟨g, k, none⟩ = some (.string x) := by
        rw [hbel.out.cell (by exact hgl.out), HOWN.out.cellAt k (by omega)]
        simp [strV, hx]
      have HX := Lib.hid hx
      clear hx
      have HF : Hid ((lists (P.take (k + 1))).foldl Cp.step [] = Cp.step (lists E) x.data.toList) := by
        show _ = _
        rw [List.take_add_one, HX.out, hE.out]
        simp [lists]
      by_cases hx1 : x.toList.isEmpty = true
      · have HN : Hid (lists E = (lists (P.take (k + 1))).foldl Cp.step []) := by
          show _ = _
          rw [HF.out]
          have : x.data.toList = [] := by rw [← Lib.toList_data]; simpa using hx1
          rw [this, Cp.step_nil]
        go_wp2
        go_roundw
        case rel => exact ⟨k + 1, E, g2, cap2, by go_num, rfl, by omega, HN, by omega, hown, hbel⟩
        case measure => simp [RowKit.intOf]; omega
      · have hx1' : x.toList.isEmpty = false := by simpa using hx1
        clear hx1
        by_cases hx2 : (x.toList == [46]) = true
        · have HN : Hid (lists E = (lists (P.take (k + 1))).foldl Cp.step []) := by
            show _ = _
            rw [HF.out]
            have : x.data.toList = [46] := by rw [← Lib.toList_data]; simpa using hx2
            rw [this, Cp.step_dot]
          go_wp2
          go_roundw
          case rel => exact ⟨k + 1, E, g2, cap2, by go_num, rfl, by omega, HN, by omega, hown, hbel⟩
          case measure => simp [RowKit.intOf]; omega
        · have hx2' : (x.toList == [46]) = false := by simpa using hx2
          clear hx2
          by_cases hx3 : (x.toList == [46, 46]) = true
          · have HN : Hid (lists E.dropLast = (lists (P.take (k + 1))).foldl Cp.step []) := by
              show _ = _
              rw [HF.out]
              have : x.data.toList = [46, 46] := by rw [← Lib.toList_data]; simpa using hx3
              rw [this, Cp.step_dots]
              simp [lists]
            have HO : Hid (wr.ownsRow w1.heap.size 9 1 (.slice (some ⟨g2, 0, none⟩) (E.length - 1) cap2) (E.length - 1) (strV E.dropLast)) := own_pop hown.out
            have hlen : E.dropLast.length = E.length - 1 := List.length_dropLast
            have HLE := Lib.hid hlen
            clear hlen
            by_cases h0 : E.length = 0
            · have HV : Hid (Value.slice (some ⟨g2, 0, none⟩) 0 cap2 = .slice (some ⟨g2, 0, none⟩) E.dropLast.length cap2) := by show _ = _; rw [HLE.out, h0]
              have HO2 : Hid (wr.ownsRow w1.heap.size 9 1 (.slice (some ⟨g2, 0, none⟩) E.dropLast.length cap2) E.dropLast.length (strV E.dropLast)) := by show World.ownsRow _ _ _ _ _ _ _; rw [HLE.out]; exact HO.out
              have HL2 : E.dropLast.length ≤ k + 1 := by rw [HLE.out]; omega
              go_wp2
              go_roundw
              case rel => exact ⟨k + 1, E.dropLast, g2, cap2, by go_num, HV.out, by omega, HN, HL2, HO2, hbel⟩
              case measure => simp [RowKit.intOf]; omega
            · have HO2 : Hid (wr.ownsRow w1.heap.size 9 1 (.slice (some ⟨g2, 0, none⟩) E.dropLast.length cap2) E.dropLast.length (strV E.dropLast)) := by show World.ownsRow _ _ _ _ _ _ _; rw [HLE.out]; exact HO.out
              have HL2 : E.dropLast.length ≤ k + 1 := by rw [HLE.out]; omega
              have hcap : E.length ≤ cap2 := by
                rcases hown.out.2 with ⟨h, _⟩ | ⟨_, _, _, h, _, _, h3, _⟩
                · cases h
                · cases h; exact h3
              by_cases h2 : E.length = 1
              · have HV : Hid (Value.slice (some ⟨g2, 0, none⟩) 0 cap2 = .slice (some ⟨g2, 0, none⟩) E.dropLast.length cap2) := by show _ = _; rw [HLE.out, h2]
                go_wp2
                go_roundw
                case rel => exact ⟨k + 1, E.dropLast, g2, cap2, by go_num, HV.out, by omega, HN, HL2, HO2, hbel⟩
                case measure => simp [RowKit.intOf]; omega
              · have h3 : (0 : Int) < (E.length : Int) - 1 := by omega
                have HV : Hid (Value.slice (some ⟨g2, 0, none⟩) (E.length - 1) cap2 = .slice (some ⟨g2, 0, none⟩) E.dropLast.length cap2) := by show _ = _; rw [HLE.out]
                have h4 : 0 ≤ (E.length : Int) - 1 := by omega
                have h5 : ((E.length : Int) - 1).toNat = E.length - 1 := by omega
                have h6 : E.length - 1 ≤ cap2 := by omega
                go_wp2
                go_roundw
                case rel => exact ⟨k + 1, E.dropLast, g2, cap2, by go_num, HV.out, by omega, HN, HL2, HO2, hbel⟩
                case measure => simp [RowKit.intOf]; omega
          · have hx3' : (x.toList == [46, 46]) = false := by simpa using hx3
            clear hx3
            have HN : Hid (lists (E ++ [x]) = (lists (P.take (k + 1))).foldl Cp.step []) := by
              show _ = _
              rw [HF.out]
              have e1 : x.data.toList ≠ [] := by rw [← Lib.toList_data]; simpa using hx1'
              have e2 : x.data.toList ≠ [46] := by rw [← Lib.toList_data]; simpa using hx2'
              have e3 : x.data.toList ≠ [46, 46] := by rw [← Lib.toList_data]; simpa using hx3'
              simp [Cp.step, e1, e2, e3, lists]
            go_wp2_with (at_builtin; refine wpList_append_own _ rfl _ _ 24 rfl w1.heap.size 9 i0 (.string ByteArray.empty) 1 16 Try.underlying24 hi hz0 hz1 hz2 rfl (by decide) _ _ _ rfl (hown.out.alloc _) ⟨wr.heap.size, 0, none⟩ 1 1 [.string x] rfl rfl ?c1 ?c2 ?c3 ?c4 ?c5 ?_)
            case c1 => exact cell_one_new _ _ _
            case c2 => intro u hu; simp at hu; subst hu; rfl
            case c3 => unfold maxLen; omega
            case c4 => omega
            case c5 => have := hbel.out.size; simp; omega
            intro v' w2 hown' hgrow hnil
            have hex : ∃ g3 cap3, v' = .slice (some ⟨g3, 0, none⟩) (E.length + 1) cap3 := by
              rcases hown'.2 with ⟨h, _⟩ | ⟨g3, cap3, cur, hv, _⟩
              · exact absurd h (by simpa using hnil)
              · exact ⟨g3, cap3, hv⟩
            obtain ⟨g3, cap3, hv3⟩ := hex
            rw [hv3]
            rw [hv3] at hown'
            have HO : Hid (w2.ownsRow w1.heap.size 9 1 (.slice (some ⟨g3, 0, none⟩) (E ++ [x]).length cap3) (E ++ [x]).length (strV (E ++ [x]))) := by
              show World.ownsRow _ _ _ _ _ _ _
              rw [strV_append, List.length_append]; exact hown'
            have HB : Hid (Below w1.heap.size w1 w2) := ((hbel.out.alloc hbel.out.size _).grown hgrow (by have := hbel.out.size; simp; omega) (fun k hk => (hown.out.lt k hk).1))
            have HL : (E ++ [x]).length ≤ k + 1 := by simp; omega
            have HV : Hid (Value.slice (some ⟨g3, 0, none⟩) (E.length + 1) cap3 = .slice (some ⟨g3, 0, none⟩) (E ++ [x]).length cap3) := by show _ = _; simp
            clear hown' hgrow hv3 hnil
            go_wp2
            go_roundw
            case rel => exact ⟨k + 1, E ++ [x], g3, cap3, by go_num, HV.out, by omega, HN, HL, HO, HB⟩
            case measure => simp [RowKit.intOf]; omega
    · have hT : ¬ (k : Int) < (P.length : Int) := by omega
      have HEE : Hid (lists E = (Pa.els s.data.toList).foldl Cp.step []) := by
        show _ = _
        rw [hE.out, List.take_of_length_le (by omega), HP.out]
      clear hE
      go_wp2
      obtain ⟨z, hz⟩ : ∃ z, P[P.length - 1]? = some z := ⟨P[P.length - 1], List.getElem?_eq_getElem (by omega)⟩
      have hcz : wr.cell? ⟨g, P.length - 1, none⟩ = some (.string z) := by
        rw [hbel.out.cell (by exact hgl.out), HOWN.out.cellAt (P.length - 1) (by omega)]
        simp [strV, hz]
      have HZ := Lib.hid hz
      clear hz
      have HFL : Hid ((Cp.flat (lists E)).length ≤ s.size + 1) := by
        show _ ≤ _
        rw [HEE.out]
        have h1 := flat_le (Pa.els s.data.toList) []
        rw [els_weight, HLEN.out] at h1
        have h0 : (Cp.flat []).length = 0 := rfl
        omega
      go_loop [7, 39] (fun vt vj => ∃ (j : Nat) (t : ByteArray), vj = .int .i64 j ∧ vt = .string t ∧ j ≤ E.length ∧ Hid (t.data.toList = Cp.flat (lists (E.take j))) ∧ t.size ≤ s.size + 1) (fun _ vj => E.length - (RowKit.intOf vj).toNat)
      case atStart => exact ⟨0, ⟨#[]⟩, rfl, rfl, by omega, rfl, Nat.zero_le _⟩
      case round =>
        obtain ⟨j, t, rfl, rfl, hj, ht, htl⟩ := hrel
        by_cases hjl : j < E.length
        · have hTj : (j : Int) < (E.length : Int) := by omega
          obtain ⟨y, hy⟩ : ∃ y, E[j]? = some y := ⟨E[j], List.getElem?_eq_getElem hjl⟩
          have hcy : wr.cell? ⟨g2, j, none⟩ = some (.string y) := by
            rw [hown.out.cellAt j (by omega)]
            simp [strV, hy]
          have HY : Hid (Cp.flat (lists (E.take (j + 1))) = Cp.flat (lists (E.take j)) ++ 47 :: y.data.toList) := by
            show _ = _
            rw [List.take_add_one, hy]
            simp [lists, Cp.flat]
          have HYS : Hid ((Cp.flat (lists (E.take (j + 1)))).length ≤ (Cp.flat (lists E)).length) := flat_take _ _
          clear hy
          have hys : t.size + 1 + y.size ≤ s.size + 1 := by
            have h1 := HYS.out
            have h2 := HFL.out
            rw [HY.out, ← ht.out] at h1
            simp only [List.length_append, List.length_cons, ← Lib.size_eq] at h1
            omega
          have HNT : Hid ((t ++ ⟨#[47]⟩ ++ y).data.toList = Cp.flat (lists (E.take (j + 1)))) := by
            show _ = _
            rw [HY.out, ← ht.out]
            simp
          have HNS : (t ++ ⟨#[47]⟩ ++ y).size ≤ s.size + 1 := by
            rw [Lib.size_eq, HNT.out]
            exact Nat.le_trans HYS.out HFL.out
          go_wp2
          go_round
          case rel => exact ⟨j + 1, _, by go_num, rfl, by omega, HNT, HNS⟩
          case measure => simp [RowKit.intOf]; omega
        · have hTj : ¬ (j : Int) < (E.length : Int) := by omega
          have HTT : Hid (t.data.toList = Cp.flat ((Pa.els s.data.toList).foldl Cp.step [])) := by show _ = _; rw [ht.out, List.take_of_length_le (by omega), HEE.out]
          have HZL : Hid (Cp.lastEl s.data.toList = z.data.toList) := by
            show _ = _
            unfold Cp.lastEl
            rw [← HP.out, List.getLast?_eq_getElem?, lists, List.length_map, List.getElem?_map, HZ.out]
            rfl
          have HBB : Hid (Below w.heap.size w wr) := HB1.out.trans (hbel.out.mono HB1.out.size)
          by_cases h1 : t.toList = [] ∨ z.toList = [] ∨ z.toList = [46]
          · have HR : Hid (t ++ ⟨#[47]⟩ = ⟨(Cp.clean s.data.toList).toArray⟩) := clean_slash HTT.out HZL.out h1
            by_cases k1 : t.toList.isEmpty = true
            · go_wp2
              go_ret
              exact ⟨congrArg (fun x => Ending.returned (.string x)) HR.out, HBB.out⟩
            · have k1' : t.toList.isEmpty = false := by simpa using k1
              clear k1
              by_cases k2 : z.toList.isEmpty = true
              · go_wp2
                go_ret
                exact ⟨congrArg (fun x => Ending.returned (.string x)) HR.out, HBB.out⟩
              · have k2' : z.toList.isEmpty = false := by simpa using k2
                have k3 : (z.toList == [46]) = true := by
                  rcases h1 with h | h | h
                  · rw [h] at k1'; cases k1'
                  · rw [h] at k2'; cases k2'
                  · rw [h]; rfl
                clear k2 h1
                go_wp2
                go_ret
                exact ⟨congrArg (fun x => Ending.returned (.string x)) HR.out, HBB.out⟩
          · have HR : Hid (t = ⟨(Cp.clean s.data.toList).toArray⟩) := clean_plain HTT.out HZL.out h1
            have k1 : t.toList.isEmpty = false := by
              have : t.toList ≠ [] := fun e => h1 (.inl e)
              simpa using this
            have k2 : z.toList.isEmpty = false := by
              have : z.toList ≠ [] := fun e => h1 (.inr (.inl e))
              simpa using this
            have k3 : (z.toList == [46]) = false := by
              have : z.toList ≠ [46] := fun e => h1 (.inr (.inr e))
              simpa using this
            clear h1
            go_wp2
            go_ret
            exact ⟨congrArg (fun x => Ending.returned (.string x)) HR.out, HBB.out⟩

end Go.Proofs.Ytbpcmemnjeaifaa
