/- FnBuild's walk. -/
import Derived.Test.YtcobbbbnmepmfaaBuild
namespace Go.Proofs.Ytcobbbbnmepmfaa
open Go Go.RowKit Go.Lib Tr

theorem build_aa (w : World) : Calls Try.prog 10 #[.slice (some ⟨w.heap.size, 0, none⟩) 2 2] (w.alloc (.cells #[.string ⟨#[47, 97]⟩, .string ⟨#[47, 97]⟩] 9)) fun e w' => e = .returned (.int .i64 1) ∧ Below w.heap.size w w' := by
  have hrow := alloc_at w (.cells #[.string ⟨#[47, 97]⟩, .string ⟨#[47, 97]⟩] 9)
  have hsc : StrCells (w.alloc (.cells #[.string ⟨#[47, 97]⟩, .string ⟨#[47, 97]⟩] 9)) (some ⟨w.heap.size, 0, none⟩) [⟨#[47, 97]⟩, ⟨#[47, 97]⟩] := by
    refine .inr ⟨w.heap.size, 0, rfl, by rw [alloc_size]; omega, fun i p hi => ?_⟩
    rw [cell_of_row8 hrow, Nat.zero_add]
    match i, hi with
    | 0, hi => rw [← Option.some.inj hi]; rfl
    | 1, hi => rw [← Option.some.inj hi]; rfl
    | _ + 2, hi => cases hi
  refine (build_any _ _ 2 [⟨#[47, 97]⟩, ⟨#[47, 97]⟩] [[.b 47, .b 97], [.b 47, .b 97]] hsc rfl (by decide) ?_).mono ?_
  · intro i p s hp hs
    have hp' : p = ⟨#[47, 97]⟩ ∧ s = [.b 47, .b 97] := by
      match i, hp, hs with
      | 0, hp, hs => exact ⟨(Option.some.inj hp).symm, (Option.some.inj hs).symm⟩
      | 1, hp, hs => exact ⟨(Option.some.inj hp).symm, (Option.some.inj hs).symm⟩
      | _ + 2, hp, _ => cases hp
    rw [hp'.1, hp'.2]
    exact route_a
  · rintro e w' ⟨m, hm, rfl, hb⟩
    refine ⟨by rw [twice_a hm]; rfl, ((Below.refl _ w).alloc (Nat.le_refl _) _).trans (hb.mono (by rw [alloc_size]; omega))⟩

set_option maxHeartbeats 8000000 in
set_option maxRecDepth 100000 in
theorem fnBuild_walk (a : Option Addr) (L : List (List (Int × ByteArray))) (c : Nat) (w : World) (hs : RowsRaw w a L) (hcap : L.length ≤ c) :
    Calls Try.prog 3 #[.slice a L.length c] w fun e w' => e = .returned (.bool true) ∧ Below w.heap.size w w' := by
  have HF1 := Lib.hid (fits1_any a L c w hs)
  by_cases hfit : RowsFit L
  · by_cases hok : RowsOk L
    · have HFIT := Lib.hid hfit
      have HOK := Lib.hid hok
      have HAR : Hid (∀ w1, Below w.heap.size w w1 → Calls Try.prog 9 #[.slice a L.length c] w1 (Tells (RowsOk L) w1)) := fun w1 hb => areRoutes_any a L c w1 (hs.below hb (Nat.le_refl _) hb.size) hfit
      have HPA : Hid (∀ w1, Below w.heap.size w w1 → Calls Try.prog 11 #[.slice a L.length c] w1 (PathsPost L w1)) := fun w1 hb => paths_any a L c w1 (hs.below hb (Nat.le_refl _) hb.size) hfit hok
      have HBT : Hid (∀ w1, Below w.heap.size w w1 → Calls Try.prog 12 #[.slice a L.length c] w1 (BuiltPost L w1)) := fun w1 hb => built_any a L c w1 (hs.below hb (Nat.le_refl _) hb.size) hfit hok hcap
      have HBU : Hid (∀ w1 w2 P g cap, P.length = L.length → StrCells w2 (some ⟨g, 0, none⟩) P → (∀ (i : Nat) p l, P[i]? = some p → L[i]? = some l → p.data.toList = enc (tokR l) ∧ p.size ≤ 320) → Below w1.heap.size w1 w2 → Calls Try.prog 10 #[.slice (some ⟨g, 0, none⟩) P.length cap] w2 (NumPost (L.map tokR) w2)) := by
        intro w1 w2 P g cap h1 h2 h3 _
        refine build_any w2 _ cap P (L.map tokR) h2 (by rw [h1, List.length_map]) (by have := hok.1; omega) ?_
        intro i p s hp hs
        rw [List.getElem?_map] at hs
        cases hl : L[i]? with
        | none => rw [hl] at hs; cases hs
        | some l =>
          rw [hl] at hs
          have : tokR l = s := Option.some.inj hs
          rw [← this]
          obtain ⟨h4, h5⟩ := h3 i p l hp hl
          exact route_in h4 h5 (hok.2 i l hl)
      clear hs hfit hok
      go_enter Try.func3, Try.ntmps3
      go_wp2_with fail
      refine HF1.out.mono ?_
      rintro e w1 ⟨B, rfl, hB, hb1⟩
      have hBt : B = true := hB.2 HFIT.out
      subst hBt
      have HB1 := Lib.hid hb1
      clear hB hb1
      go_wp2_with fail
      refine (HAR.out _ HB1.out).mono ?_
      rintro e w2 ⟨B, rfl, hB, hb2⟩
      have hBt : B = true := hB.2 HOK.out
      subst hBt
      have HB2 := Lib.hid (HB1.out.trans (hb2.mono HB1.out.size))
      clear hB hb2
      go_wp2_with fail
      refine (HPA.out _ HB2.out).mono ?_
      rintro e w3 ⟨P, g, cap, rfl, hPl, hSc, hEnc, hb3⟩
      have HBU3 := Lib.hid (HBU.out w2 w3 P g cap hPl hSc hEnc hb3)
      have HB3 := Lib.hid (HB2.out.trans (hb3.mono HB2.out.size))
      clear hPl hSc hEnc hb3
      go_wp2_with fail
      refine HBU3.out.mono ?_
      rintro e w4 ⟨m, hm, rfl, hb4⟩
      have HM := Lib.hid hm
      have HB4 := Lib.hid (HB3.out.trans (hb4.mono HB3.out.size))
      clear hm hb4
      go_wp2_with fail
      refine (HBT.out _ HB4.out).mono ?_
      rintro e w5 ⟨m2, hm2, rfl, hb5⟩
      obtain rfl := HM.out.unique hm2
      have HB5 := Lib.hid (HB4.out.trans (hb5.mono HB4.out.size))
      clear hm2 hb5
      go_wp2_with fail
      refine (build_aa _).mono ?_
      rintro e w6 ⟨rfl, hb6⟩
      have HB6 := Lib.hid (HB5.out.trans (hb6.mono HB5.out.size))
      clear hb6
      go_wp2
      go_ret
      exact ⟨rfl, HB6.out⟩
    · have HFIT := Lib.hid hfit
      have HNOK := Lib.hid hok
      have HAR : Hid (∀ w1, Below w.heap.size w w1 → Calls Try.prog 9 #[.slice a L.length c] w1 (Tells (RowsOk L) w1)) := fun w1 hb => areRoutes_any a L c w1 (hs.below hb (Nat.le_refl _) hb.size) hfit
      clear hs hfit hok
      go_enter Try.func3, Try.ntmps3
      go_wp2_with (first
        | (go_at_call 8; refine HF1.out.mono ?_; rintro e w1 ⟨B, rfl, hB, hb1⟩; (have hBt : B = true := hB.2 HFIT.out); subst hBt; (have HB1 := Lib.hid hb1); clear hB hb1)
        | (go_at_call 9; refine (HAR.out _ HB1.out).mono ?_; rintro e w2 ⟨B, rfl, hB, hb2⟩; (have hBt : B = false := by (cases B; rfl; exact absurd (hB.1 rfl) HNOK.out)); subst hBt; (have HB2 := Lib.hid (HB1.out.trans (hb2.mono HB1.out.size))); clear hB hb2))
      go_ret
      exact ⟨rfl, HB2.out⟩
  · have HNFIT := Lib.hid hfit
    clear hs hfit
    go_enter Try.func3, Try.ntmps3
    go_wp2_with (go_at_call 8; refine HF1.out.mono ?_; rintro e w1 ⟨B, rfl, hB, hb1⟩; (have hBt : B = false := by (cases B; rfl; exact absurd (hB.1 rfl) HNFIT.out)); subst hBt; (have HB1 := Lib.hid hb1); clear hB hb1)
    go_ret
    exact ⟨rfl, HB1.out⟩

end Go.Proofs.Ytcobbbbnmepmfaa
