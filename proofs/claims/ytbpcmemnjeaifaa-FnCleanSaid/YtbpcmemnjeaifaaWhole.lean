/- CleanPath, and the thin package's Clean, at every text. -/
import Derived.Test.YtbpcmemnjeaifaaClean
import Derived.Test.YtbpcmemnjeaifaaSpec
import Derived.Test.YtbpcmemnjeaifaaTwice
namespace Go.Proofs.Ytbpcmemnjeaifaa
open Go.RowKit Go.Lib

theorem Cp.clean_length (l : List UInt8) : (Cp.clean l).length ≤ l.length + 2 := by
  have h := flat_le (Pa.els l) []
  rw [els_weight] at h
  have h0 : (Cp.flat []).length = 0 := rfl
  unfold Cp.clean
  split
  · simp; omega
  · omega

set_option maxRecDepth 100000 in
theorem cleanPath_all (s : ByteArray) (w : World) (hbig : s.size ≤ 2147483647) : Calls Try.prog 7 #[.string s] w (SpecPost s.data.toList w) := by
  by_cases h0 : s.size = 0
  · have hnil : s.data.toList = [] := by rw [← List.length_eq_zero_iff, ← Lib.size_eq]; exact h0
    have hE : s.toList.isEmpty = true := by rw [Lib.toList_data, hnil]; rfl
    have HN : Hid (Cp.clean s.data.toList = [47]) := by show _ = _; rw [hnil]; decide
    clear hnil h0
    go_enter Try.func7, Try.ntmps7
    go_wp2
    go_ret
    exact ⟨by rw [HN.out]; rfl, Below.refl _ _⟩
  · refine (cleanPath_any s w (by omega) (by omega) _ _ rfl rfl).mono ?_
    rintro e w' ⟨rfl, hb⟩
    refine ⟨?_, hb⟩
    rw [Cp.res_clean]
    intro h
    have := Lib.size_eq s
    rw [h] at this
    exact h0 this

set_option maxRecDepth 100000 in
theorem cleanFn_any (s : ByteArray) (w : World) (hbig : s.size ≤ 2147483647) : Calls Try.prog 5 #[.string s] w (SpecPost s.data.toList w) := by
  go_enter Try.func5, Try.ntmps5
  go_wp2_with fail
  refine (cleanPath_all s _ hbig).mono ?_
  rintro e w1 ⟨rfl, hb1⟩
  go_wp2
  go_ret
  exact ⟨rfl, hb1⟩

end Go.Proofs.Ytbpcmemnjeaifaa
