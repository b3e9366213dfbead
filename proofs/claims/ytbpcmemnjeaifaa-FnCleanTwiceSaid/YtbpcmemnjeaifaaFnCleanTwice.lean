/- The law FnCleanTwice returns true for every text: a clean path begins with a slash and is clean. There are no conditions. -/
import Derived.Test.YtbpcmemnjeaifaaWhole
import Derived.ProofKit
import Derived.OpenShut
import Derived.ShutString
import Derived.ChangeOld
namespace Go.Proofs.Ytbpcmemnjeaifaa.fnCleanTwice
open Go.ChangeShapes Go.WideShapes Go.ChangeAt Go.RowKit
open Go.ChangeMaps (open_string shut_string)
set_option linter.unusedVariables false

theorem own : ownKnob Try.prog.godebug = none := by kernel_rfl

set_option maxHeartbeats 2000000 in
set_option maxRecDepth 100000 in
theorem walk (s : ByteArray) (w : World) :
    Calls Try.prog 4 #[.string s] w fun e w' => e = .returned (.bool true) ∧ Below w.heap.size w w' := by
  by_cases h1 : 2147483647 < s.size
  · have t1 : (2147483647 : Int) < (s.size : Int) := by omega
    go_enter Try.func4, Try.ntmps4
    go_wp2
    go_ret
    exact ⟨rfl, Below.refl _ _⟩
  · have t1 : ¬ (2147483647 : Int) < (s.size : Int) := by omega
    by_cases h2 : 1024 < s.size
    · have t2 : (1024 : Int) < (s.size : Int) := by omega
      go_enter Try.func4, Try.ntmps4
      go_wp2
      go_ret
      exact ⟨rfl, Below.refl _ _⟩
    · have t2 : ¬ (1024 : Int) < (s.size : Int) := by omega
      obtain ⟨c, hc⟩ : ∃ c : ByteArray, c = ⟨(Cp.clean s.data.toList).toArray⟩ := ⟨_, rfl⟩
      have hcl : c.data.toList = Cp.clean s.data.toList := by rw [hc]
      have hcs : c.size ≤ s.size + 2 := by rw [Lib.size_eq, hcl, Lib.size_eq]; exact Cp.clean_length _
      have hc0 : 0 < c.size := by
        obtain ⟨t, ht⟩ := Cp.clean_first s.data.toList
        rw [Lib.size_eq, hcl, ht]; simp
      have hfirst : c[0]'hc0 = 47 := by
        obtain ⟨t, ht⟩ := Cp.clean_first s.data.toList
        have h := Lib.Pa.at_eq c 0 hc0
        rw [hcl, ht] at h
        simpa using h.symm
      have tf : (((c[0]'hc0).toNat : Int) == 47) = true := by rw [hfirst]; rfl
      have tb : (0 : Int) < (c.size : Int) := by omega
      have HSAME : Hid (⟨(Cp.clean c.data.toList).toArray⟩ = c) := Lib.hid (by rw [hcl, Cp.clean_clean, hc])
      have HC := Lib.hid hc
      clear hcl hc hfirst
      go_enter Try.func4, Try.ntmps4
      go_wp2_with fail
      refine (cleanFn_any s _ (by omega)).mono ?_
      rintro e w1 ⟨rfl, hb1⟩
      rw [← HC.out]
      have HB1 := Lib.hid hb1
      clear hb1
      go_wp2_with fail
      refine (cleanFn_any c _ (by omega)).mono ?_
      rintro e w2 ⟨rfl, hb2⟩
      rw [HSAME.out]
      have HB2 : Hid (Below w.heap.size w w2) := Lib.hid (HB1.out.trans (hb2.mono HB1.out.size))
      clear hb2
      go_wp2
      go_ret
      exact ⟨rfl, HB2.out⟩

/-! ### The row's step -/
set_option maxRecDepth 100000 in
theorem lifted (os : Os) (started : os.Started) (H : Type) (enc : TypeId × Value → H) :
    ReturnsInHanded {} Try.checked os 4 .any (Rows.fnCleanTwiceSpec.pre6 enc Try.prog Try.f4 Rows.fnCleanTwiceRow.domain false) (Rows.fnCleanTwiceSpec.post enc Try.prog Try.f4 false true false false) := by
  refine returnsInHanded_of_change (C := Try.checked) own started (by kernel_rfl) Try.func4
    (ChangeSpec.witness6 (enc := enc) (C := Try.checked) false ⟨#[], #[.string ByteArray.empty], []⟩ 8 (by kernel_rfl) (by kernel_rfl) (by kernel_rfl) (by kernel_rfl)) ?_
  intro W base args ds gs before hval0 hW hcnd _
  have hval : ∀ (j : Nat) t v, Try.f4.params[j]? = some t → args[j]? = some v → Value.okWide Try.prog W .any base t v := hval0
  have hW' := hW
  obtain ⟨p, q, hA0, hV, rfl, hfz, hnd⟩ := hW
  have hA : DataW.TrodAll enc Try.prog W 0 (fun _ => true) true Try.f4.params.toList args.toList ds p := hA0
  rw [Try.params4] at hA hval
  obtain ⟨v0, vs0, d0, ds0, p0, q0, hargs, rfl, rfl, h0, r0⟩ := trodAll_cons hA
  obtain ⟨rfl, rfl, rfl⟩ := trodAll_nil r0
  obtain rfl : args = #[v0] := by cases args; simp_all
  obtain ⟨rfl, rfl⟩ := trodVars_none hV
  obtain ⟨a0, rfl, rfl, rfl, w0⟩ := open_string Try.underlying9 (hval 0 9 v0 rfl rfl) h0
  clear hA0 hval0
  refine (walk a0 W).mono fun e W' ⟨he, bel⟩ => ?_
  subst he
  exact ⟨_, rfl, _, _, _, [], _, [], hW', trodAll_mk1 (shut_bool Try.underlying4 _), (trodAll_cons_mk (shut_string Try.underlying9 w0) trodAll_mk0), rfl, bel.frame _, fun h => by cases h⟩

theorem over : Rows.fnCleanTwiceRow.holds Try.pinned (OpenSpec.ofChange Rows.fnCleanTwiceSpec) :=
  OpenClaim.holds_of_wide 4 Try.f4 rfl rfl rfl rfl rfl rfl rfl ⟨rfl, rfl, rfl, rfl, rfl⟩ rfl rfl rfl rfl rfl (by kernel_rfl) Try.func4 (by kernel_rfl)
    (of_decide_eq_true (by kernel_rfl)) (by unfold Func.isWrapper; first | (rw [if_pos (by decide +kernel)]; kernel_rfl) | (rw [if_neg (by decide +kernel)]; exact ⟨rfl, rfl⟩))
    (fun os started H enc _ => lifted os started H enc)

theorem proved : Rows.FnCleanTwiceSaid :=
  over
#print axioms proved
end Go.Proofs.Ytbpcmemnjeaifaa.fnCleanTwice
