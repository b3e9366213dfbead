/- insertChild panics: where a parameter, or all that is left, meets what stands there. -/
import Derived.Test.YtcobbbbnmepmfaaStep
import Derived.Deep.LoopGhost
namespace Go.Proofs.Ytcobbbbnmepmfaa
open Go Go.RowKit Go.Lib Tr

/-- A panic of the package's own. -/
def Panics (e : Ending) : Prop := ∃ t v, e = .panicked [{ v := .iface t v, recovered := false }]

set_option maxHeartbeats 4000000 in
set_option maxRecDepth 100000 in
theorem insert_panics (w : World) (pth full : ByteArray) (hv : Value) (cur : Nat) (tag : Tag) (d : Dec) (p : ByteArray) (h : Option Nat) (kids : List HT) (np m : Nat) (hr : Rep w (.mk tag cur d p h kids))
    (hl : pth.size ≤ 2147483647) (hfl : full.size ≤ 2147483647) (hps : p.size ≤ 2147483647) (hnp : 0 < np) (hnp2 : np ≤ 255) (hm1 : 1 ≤ m) (hm2 : 1 + m ≤ pth.size) (hm3 : m + 1 = pth.size ∨ pth.data.toList[1 + m]? = some 47) (hat : ∀ j, j < m → ∃ y, pth.data.toList[1 + j]? = some y ∧ plain y ∧ y ≠ 47)
    (c : UInt8) (hc : pth.data.toList[0]? = some c) (hc2 : c = 58 ∨ c = 42)
    (hk : kids ≠ [] ∨ (kids = [] ∧ c = 42 ∧ np = 1 ∧ m + 1 = pth.size ∧ p.data.toList.getLast? = some 47)) :
    Calls Try.prog 42 #[.pointer (some ⟨cur, 0, none⟩), .int .u8 np, .string pth, .string full, hv] w (fun e w' => Panics e ∧ ∃ q, w' = w.drewN q) := by
  have HLEN : Hid (pth.data.toList.length = pth.size) := (Lib.size_eq pth).symm
  have hsz : 0 < pth.size := by omega
  have hcp : (pth[0]'hsz) = c := by
    have := Pa.at_eq pth 0 hsz
    rw [hc] at this
    exact (Option.some.inj this).symm
  obtain ⟨ao, ac, hao⟩ := arrV_slice d.arr kids.length
  have hc6 : ∃ (a : Option Addr) (cp : Nat), w.cell? ⟨cur, 6, none⟩ = some (.slice a kids.length cp) := by
    have h6 := hr.c6
    cases harr : d.arr with
    | none =>
      have hn := hr.node.2
      simp only [harr] at hn
      rw [harr] at h6
      exact ⟨none, 0, by rw [h6, hn]; rfl⟩
    | some q =>
      rw [harr] at h6
      exact ⟨_, _, h6⟩
  obtain ⟨a6, cp6, hc6⟩ := hc6
  have hc0 : w.cell? ⟨cur, 0, none⟩ = some (.string p) := hr.c0
  have HAT := Lib.hid hat
  have HM3 := Lib.hid hm3
  have tz : (0 : Int) < (np : Int) := by omega
  have hb1 : (0 : Int) < (pth.size : Int) := by omega
  clear hao hr hat hm3 hc
  rcases hk with hk | ⟨rfl, rfl, rfl, hme, hlast⟩
  · rcases hc2 with rfl | rfl
    · have t1 : (((pth[0]'hsz).toNat : Int) != 58) = false := by rw [hcp]; rfl
      have t1' : (((pth[0]'hsz).toNat : Int) == 58) = true := by rw [hcp]; rfl
      clear hcp
      go_enter Try.func42, Try.ntmps42
      go_wp2
      go_loop [0, 1, 10, 11] (fun vc vn vo vi => vc = .pointer (some ⟨cur, 0, none⟩) ∧ vn = .int .u8 (np : Int) ∧ vo = .int .i64 0 ∧ vi = .int .i64 0) (fun _ _ _ _ => 0)
      case atStart => exact ⟨rfl, rfl, rfl, rfl⟩
      case round =>
        obtain ⟨rfl, rfl, rfl, rfl⟩ := hrel
        go_wp2
        go_loop [14] (fun ve => ∃ e : Nat, ve = .int .i64 e ∧ 1 ≤ e ∧ e ≤ 1 + m) (fun ve => pth.size - (RowKit.intOf ve).toNat)
        case atStart => exact ⟨1, rfl, by omega, by omega⟩
        case round =>
          obtain ⟨e, rfl, he1, he2⟩ := hrel
          by_cases hlt : e < 1 + m
          · as_aux_lemma =>
            have hel : e < pth.size := by omega
            have hte : (e : Int) < (pth.size : Int) := by omega
            have hat : plain (pth[e]'hel) ∧ (pth[e]'hel) ≠ 47 := by
              obtain ⟨y, h1, h2⟩ := HAT.out (e - 1) (by omega)
              rw [show 1 + (e - 1) = e from by omega, Pa.at_eq pth e hel] at h1
              rw [Option.some.inj h1]; exact h2
            have t2 : (((pth[e]'hel).toNat : Int) != 47) = true := by rw [Pa.bne47]; simpa using hat.2
            have t3 : (((pth[e]'hel).toNat : Int) == 58) = false := by
              rw [show ((58 : Int)) = ((58 : UInt8).toNat : Int) from rfl, beq_u8]; simpa using hat.1.1
            have t4 : (((pth[e]'hel).toNat : Int) == 42) = false := by
              rw [show ((42 : Int)) = ((42 : UInt8).toNat : Int) from rfl, beq_u8]; simpa using hat.1.2
            clear hat
            go_wp2
            go_round
            case rel => exact ⟨e + 1, by go_num, by omega, by omega⟩
            case measure => simp [RowKit.intOf]; omega
          · obtain rfl : e = 1 + m := by omega
            clear hlt he1 he2
            by_cases hend : 1 + m < pth.size
            · as_aux_lemma =>
              have hte : ((1 + m : Nat) : Int) < (pth.size : Int) := by omega
              have hte' : (1 : Int) + (m : Int) < (pth.size : Int) := by omega
              have hat : (pth[1 + m]'hend) = 47 := by
                rcases HM3.out with h1 | h1
                · omega
                · rw [Pa.at_eq pth (1 + m) hend] at h1
                  exact Option.some.inj h1
              have t2 : (((pth[1 + m]'hend).toNat : Int) != 47) = false := by rw [hat]; rfl
              have hkl : (0 : Int) < (kids.length : Int) := by have := List.length_pos_iff.2 hk; omega
              go_wp2
              exact ⟨rfl, ⟨_, _, rfl⟩, 0, rfl⟩
            · as_aux_lemma =>
              have hte : ¬ ((1 + m : Nat) : Int) < (pth.size : Int) := by omega
              have hte' : ¬ (1 : Int) + (m : Int) < (pth.size : Int) := by omega
              have hkl : (0 : Int) < (kids.length : Int) := by have := List.length_pos_iff.2 hk; omega
              go_wp2
              exact ⟨rfl, ⟨_, _, rfl⟩, 0, rfl⟩
    · have t1 : (((pth[0]'hsz).toNat : Int) != 58) = true := by rw [hcp]; rfl
      have t1' : (((pth[0]'hsz).toNat : Int) == 58) = false := by rw [hcp]; rfl
      have t1s : (((pth[0]'hsz).toNat : Int) != 42) = false := by rw [hcp]; rfl
      clear hcp
      go_enter Try.func42, Try.ntmps42
      go_wp2
      go_loop [0, 1, 10, 11] (fun vc vn vo vi => vc = .pointer (some ⟨cur, 0, none⟩) ∧ vn = .int .u8 (np : Int) ∧ vo = .int .i64 0 ∧ vi = .int .i64 0) (fun _ _ _ _ => 0)
      case atStart => exact ⟨rfl, rfl, rfl, rfl⟩
      case round =>
        obtain ⟨rfl, rfl, rfl, rfl⟩ := hrel
        go_wp2
        go_loop [14] (fun ve => ∃ e : Nat, ve = .int .i64 e ∧ 1 ≤ e ∧ e ≤ 1 + m) (fun ve => pth.size - (RowKit.intOf ve).toNat)
        case atStart => exact ⟨1, rfl, by omega, by omega⟩
        case round =>
          obtain ⟨e, rfl, he1, he2⟩ := hrel
          by_cases hlt : e < 1 + m
          · as_aux_lemma =>
            have hel : e < pth.size := by omega
            have hte : (e : Int) < (pth.size : Int) := by omega
            have hat : plain (pth[e]'hel) ∧ (pth[e]'hel) ≠ 47 := by
              obtain ⟨y, h1, h2⟩ := HAT.out (e - 1) (by omega)
              rw [show 1 + (e - 1) = e from by omega, Pa.at_eq pth e hel] at h1
              rw [Option.some.inj h1]; exact h2
            have t2 : (((pth[e]'hel).toNat : Int) != 47) = true := by rw [Pa.bne47]; simpa using hat.2
            have t3 : (((pth[e]'hel).toNat : Int) == 58) = false := by
              rw [show ((58 : Int)) = ((58 : UInt8).toNat : Int) from rfl, beq_u8]; simpa using hat.1.1
            have t4 : (((pth[e]'hel).toNat : Int) == 42) = false := by
              rw [show ((42 : Int)) = ((42 : UInt8).toNat : Int) from rfl, beq_u8]; simpa using hat.1.2
            clear hat
            go_wp2
            go_round
            case rel => exact ⟨e + 1, by go_num, by omega, by omega⟩
            case measure => simp [RowKit.intOf]; omega
          · obtain rfl : e = 1 + m := by omega
            clear hlt he1 he2
            by_cases hend : 1 + m < pth.size
            · as_aux_lemma =>
              have hte : ((1 + m : Nat) : Int) < (pth.size : Int) := by omega
              have hte' : (1 : Int) + (m : Int) < (pth.size : Int) := by omega
              have hat : (pth[1 + m]'hend) = 47 := by
                rcases HM3.out with h1 | h1
                · omega
                · rw [Pa.at_eq pth (1 + m) hend] at h1
                  exact Option.some.inj h1
              have t2 : (((pth[1 + m]'hend).toNat : Int) != 47) = false := by rw [hat]; rfl
              have hkl : (0 : Int) < (kids.length : Int) := by have := List.length_pos_iff.2 hk; omega
              go_wp2
              exact ⟨rfl, ⟨_, _, rfl⟩, 0, rfl⟩
            · as_aux_lemma =>
              have hte : ¬ ((1 + m : Nat) : Int) < (pth.size : Int) := by omega
              have hte' : ¬ (1 : Int) + (m : Int) < (pth.size : Int) := by omega
              have hkl : (0 : Int) < (kids.length : Int) := by have := List.length_pos_iff.2 hk; omega
              go_wp2
              exact ⟨rfl, ⟨_, _, rfl⟩, 0, rfl⟩
  · have t1 : (((pth[0]'hsz).toNat : Int) != 58) = true := by rw [hcp]; rfl
    have t1' : (((pth[0]'hsz).toNat : Int) == 58) = false := by rw [hcp]; rfl
    have t1s : (((pth[0]'hsz).toNat : Int) != 42) = false := by rw [hcp]; rfl
    have HLAST := Lib.hid hlast
    have hle3 : pth.size ≤ 1 + m := by omega
    clear hcp hlast hme
    go_enter Try.func42, Try.ntmps42
    go_wp2
    go_loop [0, 1, 10, 11] (fun vc vn vo vi => vc = .pointer (some ⟨cur, 0, none⟩) ∧ vn = .int .u8 1 ∧ vo = .int .i64 0 ∧ vi = .int .i64 0) (fun _ _ _ _ => 0)
    case atStart => exact ⟨rfl, rfl, rfl, rfl⟩
    case round =>
      obtain ⟨rfl, rfl, rfl, rfl⟩ := hrel
      go_wp2
      go_loop [14] (fun ve => ∃ e : Nat, ve = .int .i64 e ∧ 1 ≤ e ∧ e ≤ 1 + m) (fun ve => pth.size - (RowKit.intOf ve).toNat)
      case atStart => exact ⟨1, rfl, by omega, by omega⟩
      case round =>
        obtain ⟨e, rfl, he1, he2⟩ := hrel
        by_cases hlt : e < 1 + m
        · as_aux_lemma =>
          have hel : e < pth.size := by omega
          have hte : (e : Int) < (pth.size : Int) := by omega
          have hat : plain (pth[e]'hel) ∧ (pth[e]'hel) ≠ 47 := by
            obtain ⟨y, h1, h2⟩ := HAT.out (e - 1) (by omega)
            rw [show 1 + (e - 1) = e from by omega, Pa.at_eq pth e hel] at h1
            rw [Option.some.inj h1]; exact h2
          have t2 : (((pth[e]'hel).toNat : Int) != 47) = true := by rw [Pa.bne47]; simpa using hat.2
          have t3 : (((pth[e]'hel).toNat : Int) == 58) = false := by
            rw [show ((58 : Int)) = ((58 : UInt8).toNat : Int) from rfl, beq_u8]; simpa using hat.1.1
          have t4 : (((pth[e]'hel).toNat : Int) == 42) = false := by
            rw [show ((42 : Int)) = ((42 : UInt8).toNat : Int) from rfl, beq_u8]; simpa using hat.1.2
          clear hat
          go_wp2
          go_round
          case rel => exact ⟨e + 1, by go_num, by omega, by omega⟩
          case measure => simp [RowKit.intOf]; omega
        · obtain rfl : e = 1 + m := by omega
          clear hlt he1 he2
          by_cases hend : 1 + m < pth.size
          · as_aux_lemma =>
            have hte : ((1 + m : Nat) : Int) < (pth.size : Int) := by omega
            have hte' : (1 : Int) + (m : Int) < (pth.size : Int) := by omega
            have hat : (pth[1 + m]'hend) = 47 := by
              rcases HM3.out with h1 | h1
              · omega
              · rw [Pa.at_eq pth (1 + m) hend] at h1
                exact Option.some.inj h1
            have t2 : (((pth[1 + m]'hend).toNat : Int) != 47) = false := by rw [hat]; rfl
            exfalso; omega
          · as_aux_lemma =>
            have hte : ¬ ((1 + m : Nat) : Int) < (pth.size : Int) := by omega
            have hte' : ¬ (1 : Int) + (m : Int) < (pth.size : Int) := by omega
            have hsz2 : (1 + m : Int) = (pth.size : Int) := by omega
            have te : (((1 + m : Nat) : Int) != (pth.size : Int)) = false := by simp; omega
            have te2 : ((1 : Int) + (m : Int) != (pth.size : Int)) = false := by simp; omega
            have hpl : 0 < p.size := by
              apply Classical.byContradiction
              intro h0
              have h1 := HLAST.out
              rw [List.getLast?_eq_getElem?, ← Lib.size_eq, List.getElem?_eq_none (by rw [← Lib.size_eq]; omega)] at h1
              cases h1
            have hpl1 : p.size - 1 < p.size := by omega
            have hlast : (p[p.size - 1]'hpl1) = 47 := by
              have h1 := HLAST.out
              rw [List.getLast?_eq_getElem?, ← Lib.size_eq, Pa.at_eq p (p.size - 1) hpl1] at h1
              exact Option.some.inj h1
            have t8 : (((p[p.size - 1]'hpl1).toNat : Int) == 47) = true := by rw [hlast]; rfl
            have t9 : (0 : Int) < (p.size : Int) := by omega
            have b9 : (0 : Int) ≤ (p.size : Int) - 1 ∧ (p.size : Int) - 1 < (p.size : Int) := by omega
            have b9a : (0 : Int) ≤ (p.size : Int) - 1 := by omega
            have b9b : (p.size : Int) - 1 < (p.size : Int) := by omega
            have b9c : (1 : Int) ≤ (p.size : Int) := by omega
            have z1 : IntKind.i64.wrap ((p.size : Int) - 1) = (p.size : Int) - 1 := IntWalk.i64_in _ (by omega)
            have z2 : ((p.size : Int) - 1).toNat = p.size - 1 := by omega
            clear hlast
            go_wp2_with fail
            go_quiet (fail)
            go_wp2
            exact ⟨rfl, ⟨_, _, rfl⟩, nq, rfl⟩

end Go.Proofs.Ytcobbbbnmepmfaa
