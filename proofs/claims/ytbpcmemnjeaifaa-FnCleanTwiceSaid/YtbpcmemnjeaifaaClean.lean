/- CleanPath returns the clean path; nothing that was there before the call has turned. -/
import Derived.Test.YtbpcmemnjeaifaaPlain
import Derived.Test.YtbpcmemnjeaifaaBuf
import Derived.Deep.DeepCutAuto
import Derived.Deep.LoopGhost
import Derived.BigCall
import Derived.BigGuard
import Derived.Lib.CleanWalkFns
namespace Go.Proofs.Ytbpcmemnjeaifaa
open Go.RowKit Go.Lib

theorem Bufd.start (s : ByteArray) (w : World) : Bufd w.heap.size s s.size s.data.toList (w.alloc (.cells #[.slice none 0 0] 26)) :=
  ⟨(Lib.size_eq s).symm, .inl ⟨World.rowIs_alloc w _ 26 _ (fun i hi => by
    have : i = 0 := by
      have : i < 1 := hi
      omega
    subst this; rfl), rfl⟩⟩

/-- The new buffer's cells. -/
def mkZ (n : Nat) : Array Value := madeCells #[.int .u8 0] n
theorem mkZ_first (n : Nat) : (mkZ (n + 1))[0]? = some (.int .u8 0) := by simp [mkZ, madeCells]

/-- The buffer as it is laid where the path doesn't begin with a slash. -/
theorem Bufd.start1 (s : ByteArray) (w : World) (N : Nat) : Bufd w.heap.size s (N + 1) (47 :: List.replicate N 0)
    ((w.alloc (.cells #[.slice (some ⟨w.heap.size + 1, 0, none⟩) (N + 1) (N + 1)] 26)).alloc (.cells ((mkZ (N + 1)).setIfInBounds 0 (.int .u8 47)) 5)) := by
  have h0 := World.rowIs_alloc w #[.slice (some ⟨w.heap.size + 1, 0, none⟩) (N + 1) (N + 1)] 26 (fun _ => .slice (some ⟨w.heap.size + 1, 0, none⟩) (N + 1) (N + 1)) (fun i hi => by
    have : i = 0 := by
      have : i < 1 := hi
      omega
    subst this; rfl)
  have hsz : ((mkZ (N + 1)).setIfInBounds 0 (.int .u8 47)).size = N + 1 := by simp [mkZ, size_madeCells]
  have h1 := World.rowIs_alloc (w.alloc (.cells #[.slice (some ⟨w.heap.size + 1, 0, none⟩) (N + 1) (N + 1)] 26)) ((mkZ (N + 1)).setIfInBounds 0 (.int .u8 47)) 5 (Lz.bytes (47 :: List.replicate N 0)) (fun i hi => by
    rw [hsz] at hi
    rw [Array.getElem?_setIfInBounds]
    unfold Lz.bytes
    by_cases h : 0 = i
    · subst h
      rw [if_pos rfl, if_pos (by simp [mkZ, size_madeCells])]; rfl
    · rw [if_neg h]
      obtain ⟨k, rfl⟩ : ∃ k, i = k + 1 := ⟨i - 1, by omega⟩
      rw [List.getElem?_cons_succ, List.getElem?_replicate]
      have : (mkZ (N + 1))[k + 1]? = some (.int .u8 0) := by simp [mkZ, madeCells, hi, Nat.mod_one]
      rw [this]
      split <;> rfl)
  have hs : (w.alloc (.cells #[.slice (some ⟨w.heap.size + 1, 0, none⟩) (N + 1) (N + 1)] 26)).heap.size = w.heap.size + 1 := by simp
  rw [hs, hsz] at h1
  exact ⟨by simp, .inr ⟨w.heap.size + 1, by omega, h0.alloc _, h1⟩⟩


set_option maxHeartbeats 8000000 in
set_option maxRecDepth 100000 in
theorem cleanPath_any (s : ByteArray) (w : World) (hbig : s.size ≤ 2147483648) (h0 : 0 < s.size) (F : List (List UInt8)) (T : Bool) (hF : (Pa.els s.data.toList).foldl Cp.step [] = F) (hT : Cp.trail s.data.toList = T) :
    Calls Try.prog 7 #[.string s] w fun e w' => e = .returned (.string ⟨(Cp.res F T).toArray⟩) ∧ Below w.heap.size w w' := by
  have q1 := fun a l c w => Go.run_eql_slice_nil (P := Try.prog) w 26 5 a l c Try.underlying26
  have hE : s.toList.isEmpty = false := by
    rw [Lib.toList_data]
    cases hl : s.data.toList with
    | nil => rw [Lib.size_eq, hl] at h0; cases h0
    | cons a t => rfl
  have hlen0 : s.data.toList.length = s.size := (Lib.size_eq s).symm
  have HLEN : Hid (s.data.toList.length = s.size) := hlen0
  have hz0 := Bufd.start s w
  have hmk : ∀ w : World, (Instr.makeSlice 26 (.int .i64 ((s.size : Int) + 1)) (.int .i64 ((s.size : Int) + 1))).run Try.prog w = .ok (.slice (some ⟨w.heap.size, 0, none⟩) (s.size + 1) (s.size + 1)) (w.alloc (.cells (mkZ (s.size + 1)) 5)) := fun w =>
    run_make_row' (P := Try.prog) 26 5 (.int .u8 0) 1 Try.underlying26 Try.info5 rfl .i64 .i64 (s.size + 1) (by omega) (by omega) w
  have hz1 := Bufd.start1 s w s.size
  have hm0 := mkZ_first s.size
  have HZ0 : Hid (Bufd w.heap.size s s.size s.data.toList (w.alloc (.cells #[.slice none 0 0] 26))) := hz0
  have HZ1 := Lib.hid hz1
  have HF : Hid ((Pa.els s.data.toList).foldl Cp.step [] = F) := hF
  have HT : Hid (Cp.trail s.data.toList = T) := hT
  have hfirst : (s[0]'h0) = 47 → Hid (s.data.toList[0]? = some 47) := fun h => by show _ = _; rw [Pa.at_eq s 0 h0, h]
  have hfirst' : ¬ (s[0]'h0) = 47 → Hid (s.data.toList[0]? ≠ some 47) := fun h => by show _ ≠ _; rw [Pa.at_eq s 0 h0]; intro e; exact h (Option.some.inj e)
  clear hz0 hz1 hF hT hlen0
  go_enter Try.func7, Try.ntmps7
  go_upto_if 14 with (fail)
  go_cut [5] (fun vr wx => ∃ (d : Nat) (c : List UInt8), d ≤ 1 ∧ vr = .int .i64 ((1 - d : Nat) : Int) ∧ Hid (Bufd w.heap.size s (s.size + d) c wx) ∧ Hid (c.take 1 = [47]) ∧ Hid (d = 0 → s.data.toList[0]? = some 47) ∧ Hid (Below w.heap.size w wx))
  case first =>
    by_cases hS : (s[0]'h0) = 47
    · have tS : (((s[0]'h0).toNat : Int) != 47) = false := by rw [Pa.bne47]; simp [hS]
      have X := hfirst hS
      go_wp2
      go_meet
      case rel => exact ⟨0, s.data.toList, by omega, rfl, HZ0, (by show _ = _; exact Cp.take_one X.out), fun _ => X.out, (Below.refl _ w).alloc (Nat.le_refl _) _⟩
    · have tS : (((s[0]'h0).toNat : Int) != 47) = true := by rw [Pa.bne47]; simp [hS]
      go_wp2
      go_meet
      case rel => exact ⟨1, 47 :: List.replicate s.size 0, by omega, rfl, HZ1, rfl, (by intro h; cases h), ((Below.refl _ w).alloc (Nat.le_refl _) _).alloc (by simp) _⟩
  case rest =>
    obtain ⟨d, c0, hd, rfl, HC0, HT0, HD0, HB0⟩ := hcut
    clear HZ0 HZ1 hfirst hfirst' hmk hm0
    obtain ⟨tr0, HTR⟩ : ∃ tr0, Hid (tr0 = (decide (1 < s.data.toList.length) && s.data.toList.getLast? == some 47)) := ⟨_, rfl⟩
    go_upto_region 11 with (fail)
    go_cut [7] (fun vt wx => vt = .bool tr0 ∧ wx = wc)
    case first =>
      by_cases hn : 1 < s.size
      · have hn' : (1 : Int) < (s.size : Int) := by omega
        have hx : s.size - 1 < s.size := by omega
        have hi1 : (0 : Int) ≤ (s.size : Int) - 1 ∧ (s.size : Int) - 1 < (s.size : Int) := by omega
        by_cases hl : (s[s.size - 1]'hx) = 47
        · have tl : (((s[s.size - 1]'hx).toNat : Int) == 47) = true := by rw [hl]; rfl
          go_wp2
          go_meet
          case rel => exact ⟨congrArg Value.bool (by rw [HTR.out, Cp.last_eq s hx, hl]; simp [HLEN.out, hn]), rfl⟩
        · have tl : (((s[s.size - 1]'hx).toNat : Int) == 47) = false := by rw [Pa.beq47]; simpa using hl
          go_wp2
          go_meet
          case rel => exact ⟨congrArg Value.bool (by rw [HTR.out, Cp.last_eq s hx]; simp [hl]), rfl⟩
      · have hn' : ¬ (1 : Int) < (s.size : Int) := by omega
        go_wp2
        go_meet
        case rel => exact ⟨congrArg Value.bool (by rw [HTR.out]; simp [HLEN.out, hn]), rfl⟩
    case rest =>
      obtain ⟨rfl, rfl⟩ := hcut
      have HI0 : Hid (Cp.Inv s.data.toList d F T [47] (1 - d) tr0) := Cp.Inv.start (by have := HLEN.out; omega) hd HD0.out HF.out (by rw [HTR.out]; exact HT.out) HTR.out
      go_wp2
      go_loopw [5, 6, 7] (fun vr vw vt wr => ∃ (r wv : Nat) (tr : Bool) (c : List UInt8), vr = .int .i64 r ∧ vw = .int .i64 wv ∧ vt = .bool tr ∧ wv ≤ s.size + d ∧ r ≤ s.size + 1 ∧ wv ≤ r + d ∧ 1 ≤ wv ∧ Hid (Bufd w.heap.size s (s.size + d) c wr) ∧ Hid (Cp.Inv s.data.toList d F T (c.take wv) r tr) ∧ Hid (Below w.heap.size w wr)) (fun vr _ _ _ => s.size + 4 - (RowKit.intOf vr).toNat)
      case atStart => exact ⟨1 - d, 1, tr0, c0, rfl, rfl, rfl, by omega, by omega, by omega, by omega, HC0, (by show Cp.Inv _ _ _ _ _ _ _; rw [HT0.out]; exact HI0.out), HB0⟩
      case round =>
        obtain ⟨r, wv, tr, c, rfl, rfl, rfl, hwv, hrn, hwr, hw1, hz, hinv, hbel⟩ := hrel
        clear HC0 HT0 HD0 HB0 HI0
        have hlen : (c.take wv).length = wv := by rw [List.length_take, hz.out.len]; omega
        have HLW : Hid ((c.take wv).length = wv) := hlen
        clear hlen
        by_cases hr : r < s.size
        · have hT : (r : Int) < (s.size : Int) := by omega
          have lr : Hid (s.data.toList[r]? = some (s[r]'hr)) := Pa.at_eq s r hr
          by_cases hA : (s[r]'hr) = 47
          · have tA : (((s[r]'hr).toNat : Int) == 47) = true := by rw [hA]; rfl
            have Hnew : Hid (Cp.Inv s.data.toList d F T (c.take wv) (r + 1) tr) := hinv.out.slash (by rw [lr.out, hA])
            have Hl : wv ≤ r + 1 + d := by omega
            have Hn : r + 1 ≤ s.size + 1 := by omega
            go_wp2
            go_roundw
            case rel => exact ⟨r + 1, wv, tr, c, by go_num, rfl, rfl, hwv, Hn, Hl, hw1, hz, Hnew, hbel⟩
            case measure => simp [RowKit.intOf]; omega
          · have tA : (((s[r]'hr).toNat : Int) == 47) = false := by rw [Pa.beq47]; simpa using hA
            have n47 : Hid (s.data.toList[r]? ≠ some 47) := by show _ ≠ _; rw [lr.out]; intro e; exact hA (Option.some.inj e)
            by_cases hDot : (s[r]'hr) = 46
            · have tD : (((s[r]'hr).toNat : Int) == 46) = true := by rw [hDot]; rfl
              have l46 : Hid (s.data.toList[r]? = some 46) := by show _ = _; rw [lr.out, hDot]
              by_cases h1 : r + 1 = s.size
              · have t1 : (((r : Int) + 1) == (s.size : Int)) = true := by simp; omega
                have Hnew : Hid (Cp.Inv s.data.toList d F T (c.take wv) (r + 1) true) := hinv.out.dotEnd l46.out (by rw [HLEN.out]; exact h1)
                have Hl : wv ≤ r + 1 + d := by omega
                have Hn : r + 1 ≤ s.size + 1 := by omega
                have Hm : s.size + 4 - (r + 1) < s.size + 4 - r := by omega
                clear h1
                go_wp2
                go_roundw
                case rel => exact ⟨r + 1, wv, true, c, by go_num, rfl, rfl, hwv, Hn, Hl, hw1, hz, Hnew, hbel⟩
                case measure => simp [RowKit.intOf]; omega
              · have t1 : (((r : Int) + 1) == (s.size : Int)) = false := by simp; omega
                have hr1 : r + 1 < s.size := by omega
                have hb1 : (0 : Int) ≤ (r : Int) + 1 ∧ (r : Int) + 1 < (s.size : Int) := by omega
                have lr1 : Hid (s.data.toList[r + 1]? = some (s[r + 1]'hr1)) := Pa.at_eq s (r + 1) hr1
                have ne1 : Hid (¬ r + 1 = s.data.toList.length) := by show ¬ _; rw [HLEN.out]; exact h1
                by_cases hS1 : (s[r + 1]'hr1) = 47
                · have t1s : (((s[r + 1]'hr1).toNat : Int) == 47) = true := by rw [hS1]; rfl
                  have Hnew : Hid (Cp.Inv s.data.toList d F T (c.take wv) (r + 2) tr) := hinv.out.dotSlash l46.out (by rw [lr1.out, hS1])
                  have Hl : wv ≤ r + 2 + d := by omega
                  have Hn : r + 2 ≤ s.size + 1 := by omega
                  go_wp2
                  go_roundw
                  case rel => exact ⟨r + 2, wv, tr, c, by go_num, rfl, rfl, hwv, Hn, Hl, hw1, hz, Hnew, hbel⟩
                  case measure => simp [RowKit.intOf]; omega
                · have t1s : (((s[r + 1]'hr1).toNat : Int) == 47) = false := by rw [Pa.beq47]; simpa using hS1
                  have nB : Hid (¬ (s.data.toList[r]? = some 46 ∧ (r + 1 = s.data.toList.length ∨ s.data.toList[r + 1]? = some 47))) := by
                    rintro ⟨_, e | e⟩
                    · exact ne1.out e
                    · rw [lr1.out] at e; exact hS1 (Option.some.inj e)
                  by_cases hD1 : (s[r + 1]'hr1) = 46
                  · have t1d : (((s[r + 1]'hr1).toNat : Int) == 46) = true := by rw [hD1]; rfl
                    have l146 : Hid (s.data.toList[r + 1]? = some 46) := by show _ = _; rw [lr1.out, hD1]
                    by_cases h2 : r + 2 = s.size
                    · have t2 : (((r : Int) + 2) == (s.size : Int)) = true := by simp; omega
                      have HD : Hid (Cp.Inv s.data.toList d F T (if (c.take wv).length ≤ 1 then c.take wv else (c.take wv).take (Pa.backTo (c.take wv) 1 ((c.take wv).length - 1))) (r + 3) tr) := hinv.out.dots l46.out l146.out (.inl (by rw [HLEN.out]; exact h2))
                      have Hn : r + 3 ≤ s.size + 1 := by omega
                      have Hm : s.size + 4 - (r + 3) < s.size + 4 - r := by omega
                      clear h2
                      as_aux_lemma =>
                        by_cases hdd : 1 < wv
                        · have tW : (1 : Int) < (wv : Int) := by omega
                          have HD2 : Hid (Cp.Inv s.data.toList d F T ((c.take wv).take (Pa.backTo (c.take wv) 1 (wv - 1))) (r + 3) tr) := by
                            have h := HD.out
                            rw [HLW.out, if_neg (by omega)] at h
                            exact h
                          clear HD
                          rcases hz.out.st with ⟨hB, hc⟩ | ⟨G, hG, hB, hR⟩
                          · have cB : wr.cell? ⟨w.heap.size, 0, none⟩ = some (.slice none 0 0) := hB.cell (i := 0) (by omega)
                            have HCS := Lib.hid hc
                            clear hB hc
                            go_wp2
                            go_loop [6] (fun vw => ∃ k : Nat, vw = .int .i64 k ∧ 1 ≤ k ∧ k < wv ∧ Hid (Pa.backTo (c.take wv) 1 k = Pa.backTo (c.take wv) 1 (wv - 1))) (fun vw => (RowKit.intOf vw).toNat)
                            case atStart => exact ⟨wv - 1, by first | rfl | go_num | (congr 1; omega), by omega, by omega, rfl⟩
                            case round =>
                              obtain ⟨k, rfl, hk1, hk2, hbt⟩ := hrel
                              as_aux_lemma =>
                                by_cases hg : 1 < k
                                · have tG : (1 : Int) < (k : Int) := by omega
                                  have hks : k < s.size := by
                                    have h1 := hz.out.len
                                    have h2 := HLEN.out
                                    rw [HCS.out] at h1
                                    omega
                                  have hoy : Hid ((c.take wv)[k]? = some (s[k]'hks)) := by
                                    show _ = _
                                    rw [List.getElem?_take, if_pos hk2, HCS.out]
                                    exact Pa.at_eq s k hks
                                  by_cases hy47 : s[k]'hks = 47
                                  · have ty : (((s[k]'hks).toNat : Int) != 47) = false := by rw [Pa.bne47]; simp [hy47]
                                    have hstop : Hid (Pa.backTo (c.take wv) 1 k = k) := Pa.backTo_stop _ _ _ (by rintro ⟨_, b⟩; rw [hoy.out, hy47] at b; exact b rfl)
                                    have HI3 : Hid (Cp.Inv s.data.toList d F T (c.take k) (r + 3) tr) := by
                                      have h := HD2.out
                                      rwa [← hbt.out, hstop.out, List.take_take, Nat.min_eq_left (by omega)] at h
                                    clear hy47
                                    go_wp2
                                    go_roundw
                                    case rel => exact ⟨r + 3, k, tr, c, by go_num, rfl, rfl, by omega, Hn, by omega, by omega, hz, HI3, hbel⟩
                                    case measure => simp [RowKit.intOf]; omega
                                  · have ty : (((s[k]'hks).toNat : Int) != 47) = true := by rw [Pa.bne47]; simp [hy47]
                                    have hon : Hid (Pa.backTo (c.take wv) 1 (k - 1) = Pa.backTo (c.take wv) 1 (wv - 1)) := (Pa.backTo_on _ _ _ ⟨hg, by rw [hoy.out]; intro e; exact hy47 (Option.some.inj e)⟩).symm.trans hbt.out
                                    go_wp2
                                    go_round
                                    case rel => exact ⟨k - 1, by first | rfl | go_num | (congr 1; omega), by omega, by omega, hon⟩
                                    case measure => simp [RowKit.intOf]; omega
                                · have tG : ¬ ((1 : Int) < (k : Int)) := by omega
                                  have hstop : Hid (Pa.backTo (c.take wv) 1 k = k) := Pa.backTo_stop _ _ _ (by rintro ⟨a, _⟩; exact hg a)
                                  have HI3 : Hid (Cp.Inv s.data.toList d F T (c.take k) (r + 3) tr) := by
                                    have h := HD2.out
                                    rwa [← hbt.out, hstop.out, List.take_take, Nat.min_eq_left (by omega)] at h
                                  go_wp2
                                  go_roundw
                                  case rel => exact ⟨r + 3, k, tr, c, by go_num, rfl, rfl, by omega, Hn, by omega, by omega, hz, HI3, hbel⟩
                                  case measure => simp [RowKit.intOf]; omega
                          · have cB : wr.cell? ⟨w.heap.size, 0, none⟩ = some (.slice (some ⟨G, 0, none⟩) (s.size + d) (s.size + d)) := hB.cell (i := 0) (by omega)
                            clear hB
                            go_wp2
                            go_loop [6] (fun vw => ∃ k : Nat, vw = .int .i64 k ∧ 1 ≤ k ∧ k < wv ∧ Hid (Pa.backTo (c.take wv) 1 k = Pa.backTo (c.take wv) 1 (wv - 1))) (fun vw => (RowKit.intOf vw).toNat)
                            case atStart => exact ⟨wv - 1, by first | rfl | go_num | (congr 1; omega), by omega, by omega, rfl⟩
                            case round =>
                              obtain ⟨k, rfl, hk1, hk2, hbt⟩ := hrel
                              as_aux_lemma =>
                                by_cases hg : 1 < k
                                · have tG : (1 : Int) < (k : Int) := by omega
                                  obtain ⟨y, hy⟩ : ∃ y : UInt8, y = c[k]?.getD 0 := ⟨_, rfl⟩
                                  have hoy : Hid ((c.take wv)[k]? = some y) := by
                                    show _ = _
                                    rw [List.getElem?_take, if_pos hk2, hy, List.getElem?_eq_getElem (by rw [hz.out.len]; omega)]
                                    rfl
                                  have cG : wr.cell? ⟨G, k, none⟩ = some (.int .u8 (y.toNat : Int)) := by
                                    rw [hy]
                                    exact hR.cell (i := k) (by omega)
                                  clear hy
                                  have bG : (k : Int) < (s.size : Int) + (d : Int) := by omega
                                  by_cases hy47 : y = 47
                                  · have ty : (((y).toNat : Int) != 47) = false := by rw [Pa.bne47]; simp [hy47]
                                    have hstop : Hid (Pa.backTo (c.take wv) 1 k = k) := Pa.backTo_stop _ _ _ (by rintro ⟨_, b⟩; rw [hoy.out, hy47] at b; exact b rfl)
                                    have HI3 : Hid (Cp.Inv s.data.toList d F T (c.take k) (r + 3) tr) := by
                                      have h := HD2.out
                                      rwa [← hbt.out, hstop.out, List.take_take, Nat.min_eq_left (by omega)] at h
                                    clear hy47
                                    go_wp2
                                    go_roundw
                                    case rel => exact ⟨r + 3, k, tr, c, by go_num, rfl, rfl, by omega, Hn, by omega, by omega, hz, HI3, hbel⟩
                                    case measure => simp [RowKit.intOf]; omega
                                  · have ty : (((y).toNat : Int) != 47) = true := by rw [Pa.bne47]; simp [hy47]
                                    have hon : Hid (Pa.backTo (c.take wv) 1 (k - 1) = Pa.backTo (c.take wv) 1 (wv - 1)) := (Pa.backTo_on _ _ _ ⟨hg, by rw [hoy.out]; intro e; exact hy47 (Option.some.inj e)⟩).symm.trans hbt.out
                                    go_wp2
                                    go_round
                                    case rel => exact ⟨k - 1, by first | rfl | go_num | (congr 1; omega), by omega, by omega, hon⟩
                                    case measure => simp [RowKit.intOf]; omega
                                · have tG : ¬ ((1 : Int) < (k : Int)) := by omega
                                  have hstop : Hid (Pa.backTo (c.take wv) 1 k = k) := Pa.backTo_stop _ _ _ (by rintro ⟨a, _⟩; exact hg a)
                                  have HI3 : Hid (Cp.Inv s.data.toList d F T (c.take k) (r + 3) tr) := by
                                    have h := HD2.out
                                    rwa [← hbt.out, hstop.out, List.take_take, Nat.min_eq_left (by omega)] at h
                                  go_wp2
                                  go_roundw
                                  case rel => exact ⟨r + 3, k, tr, c, by go_num, rfl, rfl, by omega, Hn, by omega, by omega, hz, HI3, hbel⟩
                                  case measure => simp [RowKit.intOf]; omega
                        · have tW : ¬ ((1 : Int) < (wv : Int)) := by omega
                          have HD2 : Hid (Cp.Inv s.data.toList d F T (c.take wv) (r + 3) tr) := by
                            have h := HD.out
                            rw [HLW.out, if_pos (by omega)] at h
                            exact h
                          clear HD
                          have Hl : wv ≤ r + 3 + d := by omega
                          go_wp2
                          go_roundw
                          case rel => exact ⟨r + 3, wv, tr, c, by go_num, rfl, rfl, hwv, Hn, Hl, hw1, hz, HD2, hbel⟩
                          case measure => simp [RowKit.intOf]; omega
                    · have t2 : (((r : Int) + 2) == (s.size : Int)) = false := by simp; omega
                      have hr2 : r + 2 < s.size := by omega
                      have hb2 : (0 : Int) ≤ (r : Int) + 2 ∧ (r : Int) + 2 < (s.size : Int) := by omega
                      have lr2 : Hid (s.data.toList[r + 2]? = some (s[r + 2]'hr2)) := Pa.at_eq s (r + 2) hr2
                      by_cases hS2 : (s[r + 2]'hr2) = 47
                      · have t2s : (((s[r + 2]'hr2).toNat : Int) == 47) = true := by rw [hS2]; rfl
                        have HD : Hid (Cp.Inv s.data.toList d F T (if (c.take wv).length ≤ 1 then c.take wv else (c.take wv).take (Pa.backTo (c.take wv) 1 ((c.take wv).length - 1))) (r + 3) tr) := hinv.out.dots l46.out l146.out (.inr (by rw [lr2.out, hS2]))
                        have Hn : r + 3 ≤ s.size + 1 := by omega
                        have Hm : s.size + 4 - (r + 3) < s.size + 4 - r := by omega
                        as_aux_lemma =>
                          by_cases hdd : 1 < wv
                          · have tW : (1 : Int) < (wv : Int) := by omega
                            have HD2 : Hid (Cp.Inv s.data.toList d F T ((c.take wv).take (Pa.backTo (c.take wv) 1 (wv - 1))) (r + 3) tr) := by
                              have h := HD.out
                              rw [HLW.out, if_neg (by omega)] at h
                              exact h
                            clear HD
                            rcases hz.out.st with ⟨hB, hc⟩ | ⟨G, hG, hB, hR⟩
                            · have cB : wr.cell? ⟨w.heap.size, 0, none⟩ = some (.slice none 0 0) := hB.cell (i := 0) (by omega)
                              have HCS := Lib.hid hc
                              clear hB hc
                              go_wp2
                              go_loop [6] (fun vw => ∃ k : Nat, vw = .int .i64 k ∧ 1 ≤ k ∧ k < wv ∧ Hid (Pa.backTo (c.take wv) 1 k = Pa.backTo (c.take wv) 1 (wv - 1))) (fun vw => (RowKit.intOf vw).toNat)
                              case atStart => exact ⟨wv - 1, by first | rfl | go_num | (congr 1; omega), by omega, by omega, rfl⟩
                              case round =>
                                obtain ⟨k, rfl, hk1, hk2, hbt⟩ := hrel
                                as_aux_lemma =>
                                  by_cases hg : 1 < k
                                  · have tG : (1 : Int) < (k : Int) := by omega
                                    have hks : k < s.size := by
                                      have h1 := hz.out.len
                                      have h2 := HLEN.out
                                      rw [HCS.out] at h1
                                      omega
                                    have hoy : Hid ((c.take wv)[k]? = some (s[k]'hks)) := by
                                      show _ = _
                                      rw [List.getElem?_take, if_pos hk2, HCS.out]
                                      exact Pa.at_eq s k hks
                                    by_cases hy47 : s[k]'hks = 47
                                    · have ty : (((s[k]'hks).toNat : Int) != 47) = false := by rw [Pa.bne47]; simp [hy47]
                                      have hstop : Hid (Pa.backTo (c.take wv) 1 k = k) := Pa.backTo_stop _ _ _ (by rintro ⟨_, b⟩; rw [hoy.out, hy47] at b; exact b rfl)
                                      have HI3 : Hid (Cp.Inv s.data.toList d F T (c.take k) (r + 3) tr) := by
                                        have h := HD2.out
                                        rwa [← hbt.out, hstop.out, List.take_take, Nat.min_eq_left (by omega)] at h
                                      clear hy47
                                      go_wp2
                                      go_roundw
                                      case rel => exact ⟨r + 3, k, tr, c, by go_num, rfl, rfl, by omega, Hn, by omega, by omega, hz, HI3, hbel⟩
                                      case measure => simp [RowKit.intOf]; omega
                                    · have ty : (((s[k]'hks).toNat : Int) != 47) = true := by rw [Pa.bne47]; simp [hy47]
                                      have hon : Hid (Pa.backTo (c.take wv) 1 (k - 1) = Pa.backTo (c.take wv) 1 (wv - 1)) := (Pa.backTo_on _ _ _ ⟨hg, by rw [hoy.out]; intro e; exact hy47 (Option.some.inj e)⟩).symm.trans hbt.out
                                      go_wp2
                                      go_round
                                      case rel => exact ⟨k - 1, by first | rfl | go_num | (congr 1; omega), by omega, by omega, hon⟩
                                      case measure => simp [RowKit.intOf]; omega
                                  · have tG : ¬ ((1 : Int) < (k : Int)) := by omega
                                    have hstop : Hid (Pa.backTo (c.take wv) 1 k = k) := Pa.backTo_stop _ _ _ (by rintro ⟨a, _⟩; exact hg a)
                                    have HI3 : Hid (Cp.Inv s.data.toList d F T (c.take k) (r + 3) tr) := by
                                      have h := HD2.out
                                      rwa [← hbt.out, hstop.out, List.take_take, Nat.min_eq_left (by omega)] at h
                                    go_wp2
                                    go_roundw
                                    case rel => exact ⟨r + 3, k, tr, c, by go_num, rfl, rfl, by omega, Hn, by omega, by omega, hz, HI3, hbel⟩
                                    case measure => simp [RowKit.intOf]; omega
                            · have cB : wr.cell? ⟨w.heap.size, 0, none⟩ = some (.slice (some ⟨G, 0, none⟩) (s.size + d) (s.size + d)) := hB.cell (i := 0) (by omega)
                              clear hB
                              go_wp2
                              go_loop [6] (fun vw => ∃ k : Nat, vw = .int .i64 k ∧ 1 ≤ k ∧ k < wv ∧ Hid (Pa.backTo (c.take wv) 1 k = Pa.backTo (c.take wv) 1 (wv - 1))) (fun vw => (RowKit.intOf vw).toNat)
                              case atStart => exact ⟨wv - 1, by first | rfl | go_num | (congr 1; omega), by omega, by omega, rfl⟩
                              case round =>
                                obtain ⟨k, rfl, hk1, hk2, hbt⟩ := hrel
                                as_aux_lemma =>
                                  by_cases hg : 1 < k
                                  · have tG : (1 : Int) < (k : Int) := by omega
                                    obtain ⟨y, hy⟩ : ∃ y : UInt8, y = c[k]?.getD 0 := ⟨_, rfl⟩
                                    have hoy : Hid ((c.take wv)[k]? = some y) := by
                                      show _ = _
                                      rw [List.getElem?_take, if_pos hk2, hy, List.getElem?_eq_getElem (by rw [hz.out.len]; omega)]
                                      rfl
                                    have cG : wr.cell? ⟨G, k, none⟩ = some (.int .u8 (y.toNat : Int)) := by
                                      rw [hy]
                                      exact hR.cell (i := k) (by omega)
                                    clear hy
                                    have bG : (k : Int) < (s.size : Int) + (d : Int) := by omega
                                    by_cases hy47 : y = 47
                                    · have ty : (((y).toNat : Int) != 47) = false := by rw [Pa.bne47]; simp [hy47]
                                      have hstop : Hid (Pa.backTo (c.take wv) 1 k = k) := Pa.backTo_stop _ _ _ (by rintro ⟨_, b⟩; rw [hoy.out, hy47] at b; exact b rfl)
                                      have HI3 : Hid (Cp.Inv s.data.toList d F T (c.take k) (r + 3) tr) := by
                                        have h := HD2.out
                                        rwa [← hbt.out, hstop.out, List.take_take, Nat.min_eq_left (by omega)] at h
                                      clear hy47
                                      go_wp2
                                      go_roundw
                                      case rel => exact ⟨r + 3, k, tr, c, by go_num, rfl, rfl, by omega, Hn, by omega, by omega, hz, HI3, hbel⟩
                                      case measure => simp [RowKit.intOf]; omega
                                    · have ty : (((y).toNat : Int) != 47) = true := by rw [Pa.bne47]; simp [hy47]
                                      have hon : Hid (Pa.backTo (c.take wv) 1 (k - 1) = Pa.backTo (c.take wv) 1 (wv - 1)) := (Pa.backTo_on _ _ _ ⟨hg, by rw [hoy.out]; intro e; exact hy47 (Option.some.inj e)⟩).symm.trans hbt.out
                                      go_wp2
                                      go_round
                                      case rel => exact ⟨k - 1, by first | rfl | go_num | (congr 1; omega), by omega, by omega, hon⟩
                                      case measure => simp [RowKit.intOf]; omega
                                  · have tG : ¬ ((1 : Int) < (k : Int)) := by omega
                                    have hstop : Hid (Pa.backTo (c.take wv) 1 k = k) := Pa.backTo_stop _ _ _ (by rintro ⟨a, _⟩; exact hg a)
                                    have HI3 : Hid (Cp.Inv s.data.toList d F T (c.take k) (r + 3) tr) := by
                                      have h := HD2.out
                                      rwa [← hbt.out, hstop.out, List.take_take, Nat.min_eq_left (by omega)] at h
                                    go_wp2
                                    go_roundw
                                    case rel => exact ⟨r + 3, k, tr, c, by go_num, rfl, rfl, by omega, Hn, by omega, by omega, hz, HI3, hbel⟩
                                    case measure => simp [RowKit.intOf]; omega
                          · have tW : ¬ ((1 : Int) < (wv : Int)) := by omega
                            have HD2 : Hid (Cp.Inv s.data.toList d F T (c.take wv) (r + 3) tr) := by
                              have h := HD.out
                              rw [HLW.out, if_pos (by omega)] at h
                              exact h
                            clear HD
                            have Hl : wv ≤ r + 3 + d := by omega
                            go_wp2
                            go_roundw
                            case rel => exact ⟨r + 3, wv, tr, c, by go_num, rfl, rfl, hwv, Hn, Hl, hw1, hz, HD2, hbel⟩
                            case measure => simp [RowKit.intOf]; omega
                      · have t2s : (((s[r + 2]'hr2).toNat : Int) == 47) = false := by rw [Pa.beq47]; simpa using hS2
                        have hEl : Hid (Cp.El s.data.toList r) := ⟨by rw [HLEN.out]; exact hr, n47.out, nB.out, by
                          rintro ⟨_, _, e | e⟩
                          · rw [HLEN.out] at e; exact h2 e
                          · rw [lr2.out] at e; exact hS2 (Option.some.inj e)⟩
                        as_aux_lemma =>
                          by_cases hw0 : wv ≤ 1
                          · have tW : ¬ ((1 : Int) < (wv : Int)) := by omega
                            have HT1 : Hid (c.take (wv + 0 + 0) = (if 1 < (c.take wv).length then c.take wv ++ [47] else c.take wv) ++ (s.data.toList.drop r).take 0) := by
                              show _ = _
                              rw [HLW.out, if_neg (by omega), List.take_zero, List.append_nil]; rfl
                            go_wp2
                            as_aux_lemma =>
                              go_loopw [5, 6] (fun vr vw wi => ∃ (j : Nat) (cj : List UInt8), vr = .int .i64 ((r + j : Nat) : Int) ∧ vw = .int .i64 ((wv + 0 + j : Nat) : Int) ∧ r + j ≤ s.size ∧ Hid (Bufd w.heap.size s (s.size + d) cj wi) ∧ Hid (cj.take (wv + 0 + j) = (if 1 < (c.take wv).length then c.take wv ++ [47] else c.take wv) ++ (s.data.toList.drop r).take j) ∧ Hid (∀ i, i < j → ∃ x, s.data.toList[r + i]? = some x ∧ x ≠ 47) ∧ Hid (Below w.heap.size w wi)) (fun vr _ _ => s.size - (RowKit.intOf vr).toNat)
                              case atStart => exact ⟨0, c, rfl, rfl, by omega, hz, HT1, (fun i hi => absurd hi (Nat.not_lt_zero _)), hbel⟩
                              case round =>
                                obtain ⟨j, cj, rfl, rfl, hj, hzj, htj, haj, hbj⟩ := hrel
                                by_cases hlt : r + j < s.size
                                · have hTj : ((r + j : Nat) : Int) < (s.size : Int) := by omega
                                  have hTj' : (r : Int) + (j : Int) < (s.size : Int) := by omega
                                  have lrj : Hid (s.data.toList[r + j]? = some (s[r + j]'hlt)) := Pa.at_eq s (r + j) hlt
                                  by_cases hSj : (s[r + j]'hlt) = 47
                                  · have tj : (((s[r + j]'hlt).toNat : Int) != 47) = false := by rw [Pa.bne47]; simp [hSj]
                                    have hj0 : 0 < j := by
                                      rcases Nat.eq_zero_or_pos j with e | e
                                      · subst e; exact absurd hSj hA
                                      · exact e
                                    have HE : Hid (Cp.Inv s.data.toList d F T (cj.take (wv + 0 + j)) (r + j) tr) := by show Cp.Inv _ _ _ _ _ _ _; rw [htj.out]; exact hinv.out.elem hEl.out j hj0 haj.out (.inr (by rw [lrj.out, hSj]))
                                    go_wp2
                                    go_roundw
                                    case rel => exact ⟨r + j, wv + 0 + j, tr, cj, by first | rfl | go_num, by first | rfl | go_num, rfl, by omega, by omega, by omega, by omega, hzj, HE, hbj⟩
                                    case measure => simp [RowKit.intOf]; omega
                                  · have tj : (((s[r + j]'hlt).toNat : Int) != 47) = true := by rw [Pa.bne47]; simp [hSj]
                                    go_wp2_with fail
                                    refine (bufApp_any _ s (s.size + d) cj (wv + 0 + j) (s[r + j]'hlt) _ hzj.out (by omega) (by omega)).mono ?_
                                    rintro e w2 ⟨rfl, c2, hz2, ht2, hb2⟩
                                    have HZ2 := Lib.hid hz2
                                    have HT2 : Hid (c2.take (wv + 0 + (j + 1)) = (if 1 < (c.take wv).length then c.take wv ++ [47] else c.take wv) ++ (s.data.toList.drop r).take (j + 1)) := by
                                      show _ = _
                                      rw [Pa.take_drop_succ _ r j _ lrj.out, ← List.append_assoc, ← htj.out]
                                      exact ht2
                                    have HB2 : Hid (Below w.heap.size w w2) := hbj.out.trans hb2
                                    have HA2 : Hid (∀ i, i < j + 1 → ∃ x, s.data.toList[r + i]? = some x ∧ x ≠ 47) := (fun i hi => by
                                      rcases Nat.lt_or_ge i j with h | h
                                      · exact haj.out i h
                                      · have : i = j := by omega
                                        subst this
                                        exact ⟨_, lrj.out, hSj⟩)
                                    clear hz2 ht2 hb2
                                    go_wp2
                                    go_roundw
                                    case rel => exact ⟨j + 1, c2, by first | go_num | (congr 1; omega), by first | go_num | (congr 1; omega), by omega, HZ2, HT2, HA2, HB2⟩
                                    case measure => simp [RowKit.intOf]; omega
                                · have hTj : ¬ (((r + j : Nat) : Int) < (s.size : Int)) := by omega
                                  have hTj' : ¬ ((r : Int) + (j : Int) < (s.size : Int)) := by omega
                                  have HE : Hid (Cp.Inv s.data.toList d F T (cj.take (wv + 0 + j)) (r + j) tr) := by show Cp.Inv _ _ _ _ _ _ _; rw [htj.out]; exact hinv.out.elem hEl.out j (by omega) haj.out (.inl (by rw [HLEN.out]; omega))
                                  go_wp2
                                  go_roundw
                                  case rel => exact ⟨r + j, wv + 0 + j, tr, cj, by first | rfl | go_num, by first | rfl | go_num, rfl, by omega, by omega, by omega, by omega, hzj, HE, hbj⟩
                                  case measure => simp [RowKit.intOf]; omega
                          · have tW : (1 : Int) < (wv : Int) := by omega
                            have hroom : wv < r + d := by
                              have h := hinv.out.room (by rw [HLEN.out]; exact hr) n47.out (by rw [HLW.out]; omega)
                              rwa [HLW.out] at h
                            go_wp2_with fail
                            refine (bufApp_any _ s (s.size + d) c wv 47 _ hz.out (by omega) (by omega)).mono ?_
                            rintro e w1 ⟨rfl, c1, hz1, ht1, hb1⟩
                            have HZ1 := Lib.hid hz1
                            have HT1 : Hid (c1.take (wv + 1 + 0) = (if 1 < (c.take wv).length then c.take wv ++ [47] else c.take wv) ++ (s.data.toList.drop r).take 0) := by
                              show _ = _
                              rw [HLW.out, if_pos (by omega), List.take_zero, List.append_nil]; exact ht1
                            have HB1 : Hid (Below w.heap.size w w1) := hbel.out.trans hb1
                            clear hz1 ht1 hb1
                            go_wp2
                            as_aux_lemma =>
                              go_loopw [5, 6] (fun vr vw wi => ∃ (j : Nat) (cj : List UInt8), vr = .int .i64 ((r + j : Nat) : Int) ∧ vw = .int .i64 ((wv + 1 + j : Nat) : Int) ∧ r + j ≤ s.size ∧ Hid (Bufd w.heap.size s (s.size + d) cj wi) ∧ Hid (cj.take (wv + 1 + j) = (if 1 < (c.take wv).length then c.take wv ++ [47] else c.take wv) ++ (s.data.toList.drop r).take j) ∧ Hid (∀ i, i < j → ∃ x, s.data.toList[r + i]? = some x ∧ x ≠ 47) ∧ Hid (Below w.heap.size w wi)) (fun vr _ _ => s.size - (RowKit.intOf vr).toNat)
                              case atStart => exact ⟨0, c1, rfl, rfl, by omega, HZ1, HT1, (fun i hi => absurd hi (Nat.not_lt_zero _)), HB1⟩
                              case round =>
                                obtain ⟨j, cj, rfl, rfl, hj, hzj, htj, haj, hbj⟩ := hrel
                                by_cases hlt : r + j < s.size
                                · have hTj : ((r + j : Nat) : Int) < (s.size : Int) := by omega
                                  have hTj' : (r : Int) + (j : Int) < (s.size : Int) := by omega
                                  have lrj : Hid (s.data.toList[r + j]? = some (s[r + j]'hlt)) := Pa.at_eq s (r + j) hlt
                                  by_cases hSj : (s[r + j]'hlt) = 47
                                  · have tj : (((s[r + j]'hlt).toNat : Int) != 47) = false := by rw [Pa.bne47]; simp [hSj]
                                    have hj0 : 0 < j := by
                                      rcases Nat.eq_zero_or_pos j with e | e
                                      · subst e; exact absurd hSj hA
                                      · exact e
                                    have HE : Hid (Cp.Inv s.data.toList d F T (cj.take (wv + 1 + j)) (r + j) tr) := by show Cp.Inv _ _ _ _ _ _ _; rw [htj.out]; exact hinv.out.elem hEl.out j hj0 haj.out (.inr (by rw [lrj.out, hSj]))
                                    go_wp2
                                    go_roundw
                                    case rel => exact ⟨r + j, wv + 1 + j, tr, cj, by first | rfl | go_num, by first | rfl | go_num, rfl, by omega, by omega, by omega, by omega, hzj, HE, hbj⟩
                                    case measure => simp [RowKit.intOf]; omega
                                  · have tj : (((s[r + j]'hlt).toNat : Int) != 47) = true := by rw [Pa.bne47]; simp [hSj]
                                    go_wp2_with fail
                                    refine (bufApp_any _ s (s.size + d) cj (wv + 1 + j) (s[r + j]'hlt) _ hzj.out (by omega) (by omega)).mono ?_
                                    rintro e w2 ⟨rfl, c2, hz2, ht2, hb2⟩
                                    have HZ2 := Lib.hid hz2
                                    have HT2 : Hid (c2.take (wv + 1 + (j + 1)) = (if 1 < (c.take wv).length then c.take wv ++ [47] else c.take wv) ++ (s.data.toList.drop r).take (j + 1)) := by
                                      show _ = _
                                      rw [Pa.take_drop_succ _ r j _ lrj.out, ← List.append_assoc, ← htj.out]
                                      exact ht2
                                    have HB2 : Hid (Below w.heap.size w w2) := hbj.out.trans hb2
                                    have HA2 : Hid (∀ i, i < j + 1 → ∃ x, s.data.toList[r + i]? = some x ∧ x ≠ 47) := (fun i hi => by
                                      rcases Nat.lt_or_ge i j with h | h
                                      · exact haj.out i h
                                      · have : i = j := by omega
                                        subst this
                                        exact ⟨_, lrj.out, hSj⟩)
                                    clear hz2 ht2 hb2
                                    go_wp2
                                    go_roundw
                                    case rel => exact ⟨j + 1, c2, by first | go_num | (congr 1; omega), by first | go_num | (congr 1; omega), by omega, HZ2, HT2, HA2, HB2⟩
                                    case measure => simp [RowKit.intOf]; omega
                                · have hTj : ¬ (((r + j : Nat) : Int) < (s.size : Int)) := by omega
                                  have hTj' : ¬ ((r : Int) + (j : Int) < (s.size : Int)) := by omega
                                  have HE : Hid (Cp.Inv s.data.toList d F T (cj.take (wv + 1 + j)) (r + j) tr) := by show Cp.Inv _ _ _ _ _ _ _; rw [htj.out]; exact hinv.out.elem hEl.out j (by omega) haj.out (.inl (by rw [HLEN.out]; omega))
                                  go_wp2
                                  go_roundw
                                  case rel => exact ⟨r + j, wv + 1 + j, tr, cj, by first | rfl | go_num, by first | rfl | go_num, rfl, by omega, by omega, by omega, by omega, hzj, HE, hbj⟩
                                  case measure => simp [RowKit.intOf]; omega
                  · have t1d : (((s[r + 1]'hr1).toNat : Int) == 46) = false := by rw [Pa.beq46]; simpa using hD1
                    have hEl : Hid (Cp.El s.data.toList r) := ⟨by rw [HLEN.out]; exact hr, n47.out, nB.out, by
                      rintro ⟨_, e, _⟩
                      rw [lr1.out] at e; exact hD1 (Option.some.inj e)⟩
                    as_aux_lemma =>
                      by_cases hw0 : wv ≤ 1
                      · have tW : ¬ ((1 : Int) < (wv : Int)) := by omega
                        have HT1 : Hid (c.take (wv + 0 + 0) = (if 1 < (c.take wv).length then c.take wv ++ [47] else c.take wv) ++ (s.data.toList.drop r).take 0) := by
                          show _ = _
                          rw [HLW.out, if_neg (by omega), List.take_zero, List.append_nil]; rfl
                        go_wp2
                        as_aux_lemma =>
                          go_loopw [5, 6] (fun vr vw wi => ∃ (j : Nat) (cj : List UInt8), vr = .int .i64 ((r + j : Nat) : Int) ∧ vw = .int .i64 ((wv + 0 + j : Nat) : Int) ∧ r + j ≤ s.size ∧ Hid (Bufd w.heap.size s (s.size + d) cj wi) ∧ Hid (cj.take (wv + 0 + j) = (if 1 < (c.take wv).length then c.take wv ++ [47] else c.take wv) ++ (s.data.toList.drop r).take j) ∧ Hid (∀ i, i < j → ∃ x, s.data.toList[r + i]? = some x ∧ x ≠ 47) ∧ Hid (Below w.heap.size w wi)) (fun vr _ _ => s.size - (RowKit.intOf vr).toNat)
                          case atStart => exact ⟨0, c, rfl, rfl, by omega, hz, HT1, (fun i hi => absurd hi (Nat.not_lt_zero _)), hbel⟩
                          case round =>
                            obtain ⟨j, cj, rfl, rfl, hj, hzj, htj, haj, hbj⟩ := hrel
                            by_cases hlt : r + j < s.size
                            · have hTj : ((r + j : Nat) : Int) < (s.size : Int) := by omega
                              have hTj' : (r : Int) + (j : Int) < (s.size : Int) := by omega
                              have lrj : Hid (s.data.toList[r + j]? = some (s[r + j]'hlt)) := Pa.at_eq s (r + j) hlt
                              by_cases hSj : (s[r + j]'hlt) = 47
                              · have tj : (((s[r + j]'hlt).toNat : Int) != 47) = false := by rw [Pa.bne47]; simp [hSj]
                                have hj0 : 0 < j := by
                                  rcases Nat.eq_zero_or_pos j with e | e
                                  · subst e; exact absurd hSj hA
                                  · exact e
                                have HE : Hid (Cp.Inv s.data.toList d F T (cj.take (wv + 0 + j)) (r + j) tr) := by show Cp.Inv _ _ _ _ _ _ _; rw [htj.out]; exact hinv.out.elem hEl.out j hj0 haj.out (.inr (by rw [lrj.out, hSj]))
                                go_wp2
                                go_roundw
                                case rel => exact ⟨r + j, wv + 0 + j, tr, cj, by first | rfl | go_num, by first | rfl | go_num, rfl, by omega, by omega, by omega, by omega, hzj, HE, hbj⟩
                                case measure => simp [RowKit.intOf]; omega
                              · have tj : (((s[r + j]'hlt).toNat : Int) != 47) = true := by rw [Pa.bne47]; simp [hSj]
                                go_wp2_with fail
                                refine (bufApp_any _ s (s.size + d) cj (wv + 0 + j) (s[r + j]'hlt) _ hzj.out (by omega) (by omega)).mono ?_
                                rintro e w2 ⟨rfl, c2, hz2, ht2, hb2⟩
                                have HZ2 := Lib.hid hz2
                                have HT2 : Hid (c2.take (wv + 0 + (j + 1)) = (if 1 < (c.take wv).length then c.take wv ++ [47] else c.take wv) ++ (s.data.toList.drop r).take (j + 1)) := by
                                  show _ = _
                                  rw [Pa.take_drop_succ _ r j _ lrj.out, ← List.append_assoc, ← htj.out]
                                  exact ht2
                                have HB2 : Hid (Below w.heap.size w w2) := hbj.out.trans hb2
                                have HA2 : Hid (∀ i, i < j + 1 → ∃ x, s.data.toList[r + i]? = some x ∧ x ≠ 47) := (fun i hi => by
                                  rcases Nat.lt_or_ge i j with h | h
                                  · exact haj.out i h
                                  · have : i = j := by omega
                                    subst this
                                    exact ⟨_, lrj.out, hSj⟩)
                                clear hz2 ht2 hb2
                                go_wp2
                                go_roundw
                                case rel => exact ⟨j + 1, c2, by first | go_num | (congr 1; omega), by first | go_num | (congr 1; omega), by omega, HZ2, HT2, HA2, HB2⟩
                                case measure => simp [RowKit.intOf]; omega
                            · have hTj : ¬ (((r + j : Nat) : Int) < (s.size : Int)) := by omega
                              have hTj' : ¬ ((r : Int) + (j : Int) < (s.size : Int)) := by omega
                              have HE : Hid (Cp.Inv s.data.toList d F T (cj.take (wv + 0 + j)) (r + j) tr) := by show Cp.Inv _ _ _ _ _ _ _; rw [htj.out]; exact hinv.out.elem hEl.out j (by omega) haj.out (.inl (by rw [HLEN.out]; omega))
                              go_wp2
                              go_roundw
                              case rel => exact ⟨r + j, wv + 0 + j, tr, cj, by first | rfl | go_num, by first | rfl | go_num, rfl, by omega, by omega, by omega, by omega, hzj, HE, hbj⟩
                              case measure => simp [RowKit.intOf]; omega
                      · have tW : (1 : Int) < (wv : Int) := by omega
                        have hroom : wv < r + d := by
                          have h := hinv.out.room (by rw [HLEN.out]; exact hr) n47.out (by rw [HLW.out]; omega)
                          rwa [HLW.out] at h
                        go_wp2_with fail
                        refine (bufApp_any _ s (s.size + d) c wv 47 _ hz.out (by omega) (by omega)).mono ?_
                        rintro e w1 ⟨rfl, c1, hz1, ht1, hb1⟩
                        have HZ1 := Lib.hid hz1
                        have HT1 : Hid (c1.take (wv + 1 + 0) = (if 1 < (c.take wv).length then c.take wv ++ [47] else c.take wv) ++ (s.data.toList.drop r).take 0) := by
                          show _ = _
                          rw [HLW.out, if_pos (by omega), List.take_zero, List.append_nil]; exact ht1
                        have HB1 : Hid (Below w.heap.size w w1) := hbel.out.trans hb1
                        clear hz1 ht1 hb1
                        go_wp2
                        as_aux_lemma =>
                          go_loopw [5, 6] (fun vr vw wi => ∃ (j : Nat) (cj : List UInt8), vr = .int .i64 ((r + j : Nat) : Int) ∧ vw = .int .i64 ((wv + 1 + j : Nat) : Int) ∧ r + j ≤ s.size ∧ Hid (Bufd w.heap.size s (s.size + d) cj wi) ∧ Hid (cj.take (wv + 1 + j) = (if 1 < (c.take wv).length then c.take wv ++ [47] else c.take wv) ++ (s.data.toList.drop r).take j) ∧ Hid (∀ i, i < j → ∃ x, s.data.toList[r + i]? = some x ∧ x ≠ 47) ∧ Hid (Below w.heap.size w wi)) (fun vr _ _ => s.size - (RowKit.intOf vr).toNat)
                          case atStart => exact ⟨0, c1, rfl, rfl, by omega, HZ1, HT1, (fun i hi => absurd hi (Nat.not_lt_zero _)), HB1⟩
                          case round =>
                            obtain ⟨j, cj, rfl, rfl, hj, hzj, htj, haj, hbj⟩ := hrel
                            by_cases hlt : r + j < s.size
                            · have hTj : ((r + j : Nat) : Int) < (s.size : Int) := by omega
                              have hTj' : (r : Int) + (j : Int) < (s.size : Int) := by omega
                              have lrj : Hid (s.data.toList[r + j]? = some (s[r + j]'hlt)) := Pa.at_eq s (r + j) hlt
                              by_cases hSj : (s[r + j]'hlt) = 47
                              · have tj : (((s[r + j]'hlt).toNat : Int) != 47) = false := by rw [Pa.bne47]; simp [hSj]
                                have hj0 : 0 < j := by
                                  rcases Nat.eq_zero_or_pos j with e | e
                                  · subst e; exact absurd hSj hA
                                  · exact e
                                have HE : Hid (Cp.Inv s.data.toList d F T (cj.take (wv + 1 + j)) (r + j) tr) := by show Cp.Inv _ _ _ _ _ _ _; rw [htj.out]; exact hinv.out.elem hEl.out j hj0 haj.out (.inr (by rw [lrj.out, hSj]))
                                go_wp2
                                go_roundw
                                case rel => exact ⟨r + j, wv + 1 + j, tr, cj, by first | rfl | go_num, by first | rfl | go_num, rfl, by omega, by omega, by omega, by omega, hzj, HE, hbj⟩
                                case measure => simp [RowKit.intOf]; omega
                              · have tj : (((s[r + j]'hlt).toNat : Int) != 47) = true := by rw [Pa.bne47]; simp [hSj]
                                go_wp2_with fail
                                refine (bufApp_any _ s (s.size + d) cj (wv + 1 + j) (s[r + j]'hlt) _ hzj.out (by omega) (by omega)).mono ?_
                                rintro e w2 ⟨rfl, c2, hz2, ht2, hb2⟩
                                have HZ2 := Lib.hid hz2
                                have HT2 : Hid (c2.take (wv + 1 + (j + 1)) = (if 1 < (c.take wv).length then c.take wv ++ [47] else c.take wv) ++ (s.data.toList.drop r).take (j + 1)) := by
                                  show _ = _
                                  rw [Pa.take_drop_succ _ r j _ lrj.out, ← List.append_assoc, ← htj.out]
                                  exact ht2
                                have HB2 : Hid (Below w.heap.size w w2) := hbj.out.trans hb2
                                have HA2 : Hid (∀ i, i < j + 1 → ∃ x, s.data.toList[r + i]? = some x ∧ x ≠ 47) := (fun i hi => by
                                  rcases Nat.lt_or_ge i j with h | h
                                  · exact haj.out i h
                                  · have : i = j := by omega
                                    subst this
                                    exact ⟨_, lrj.out, hSj⟩)
                                clear hz2 ht2 hb2
                                go_wp2
                                go_roundw
                                case rel => exact ⟨j + 1, c2, by first | go_num | (congr 1; omega), by first | go_num | (congr 1; omega), by omega, HZ2, HT2, HA2, HB2⟩
                                case measure => simp [RowKit.intOf]; omega
                            · have hTj : ¬ (((r + j : Nat) : Int) < (s.size : Int)) := by omega
                              have hTj' : ¬ ((r : Int) + (j : Int) < (s.size : Int)) := by omega
                              have HE : Hid (Cp.Inv s.data.toList d F T (cj.take (wv + 1 + j)) (r + j) tr) := by show Cp.Inv _ _ _ _ _ _ _; rw [htj.out]; exact hinv.out.elem hEl.out j (by omega) haj.out (.inl (by rw [HLEN.out]; omega))
                              go_wp2
                              go_roundw
                              case rel => exact ⟨r + j, wv + 1 + j, tr, cj, by first | rfl | go_num, by first | rfl | go_num, rfl, by omega, by omega, by omega, by omega, hzj, HE, hbj⟩
                              case measure => simp [RowKit.intOf]; omega
            · have tD : (((s[r]'hr).toNat : Int) == 46) = false := by rw [Pa.beq46]; simpa using hDot
              have n46 : Hid (s.data.toList[r]? ≠ some 46) := by show _ ≠ _; rw [lr.out]; intro e; exact hDot (Option.some.inj e)
              have hEl : Hid (Cp.El s.data.toList r) := ⟨by rw [HLEN.out]; exact hr, n47.out, fun e => n46.out e.1, fun e => n46.out e.1⟩
              as_aux_lemma =>
                by_cases hw0 : wv ≤ 1
                · have tW : ¬ ((1 : Int) < (wv : Int)) := by omega
                  have HT1 : Hid (c.take (wv + 0 + 0) = (if 1 < (c.take wv).length then c.take wv ++ [47] else c.take wv) ++ (s.data.toList.drop r).take 0) := by
                    show _ = _
                    rw [HLW.out, if_neg (by omega), List.take_zero, List.append_nil]; rfl
                  go_wp2
                  as_aux_lemma =>
                    go_loopw [5, 6] (fun vr vw wi => ∃ (j : Nat) (cj : List UInt8), vr = .int .i64 ((r + j : Nat) : Int) ∧ vw = .int .i64 ((wv + 0 + j : Nat) : Int) ∧ r + j ≤ s.size ∧ Hid (Bufd w.heap.size s (s.size + d) cj wi) ∧ Hid (cj.take (wv + 0 + j) = (if 1 < (c.take wv).length then c.take wv ++ [47] else c.take wv) ++ (s.data.toList.drop r).take j) ∧ Hid (∀ i, i < j → ∃ x, s.data.toList[r + i]? = some x ∧ x ≠ 47) ∧ Hid (Below w.heap.size w wi)) (fun vr _ _ => s.size - (RowKit.intOf vr).toNat)
                    case atStart => exact ⟨0, c, rfl, rfl, by omega, hz, HT1, (fun i hi => absurd hi (Nat.not_lt_zero _)), hbel⟩
                    case round =>
                      obtain ⟨j, cj, rfl, rfl, hj, hzj, htj, haj, hbj⟩ := hrel
                      by_cases hlt : r + j < s.size
                      · have hTj : ((r + j : Nat) : Int) < (s.size : Int) := by omega
                        have hTj' : (r : Int) + (j : Int) < (s.size : Int) := by omega
                        have lrj : Hid (s.data.toList[r + j]? = some (s[r + j]'hlt)) := Pa.at_eq s (r + j) hlt
                        by_cases hSj : (s[r + j]'hlt) = 47
                        · have tj : (((s[r + j]'hlt).toNat : Int) != 47) = false := by rw [Pa.bne47]; simp [hSj]
                          have hj0 : 0 < j := by
                            rcases Nat.eq_zero_or_pos j with e | e
                            · subst e; exact absurd hSj hA
                            · exact e
                          have HE : Hid (Cp.Inv s.data.toList d F T (cj.take (wv + 0 + j)) (r + j) tr) := by show Cp.Inv _ _ _ _ _ _ _; rw [htj.out]; exact hinv.out.elem hEl.out j hj0 haj.out (.inr (by rw [lrj.out, hSj]))
                          go_wp2
                          go_roundw
                          case rel => exact ⟨r + j, wv + 0 + j, tr, cj, by first | rfl | go_num, by first | rfl | go_num, rfl, by omega, by omega, by omega, by omega, hzj, HE, hbj⟩
                          case measure => simp [RowKit.intOf]; omega
                        · have tj : (((s[r + j]'hlt).toNat : Int) != 47) = true := by rw [Pa.bne47]; simp [hSj]
                          go_wp2_with fail
                          refine (bufApp_any _ s (s.size + d) cj (wv + 0 + j) (s[r + j]'hlt) _ hzj.out (by omega) (by omega)).mono ?_
                          rintro e w2 ⟨rfl, c2, hz2, ht2, hb2⟩
                          have HZ2 := Lib.hid hz2
                          have HT2 : Hid (c2.take (wv + 0 + (j + 1)) = (if 1 < (c.take wv).length then c.take wv ++ [47] else c.take wv) ++ (s.data.toList.drop r).take (j + 1)) := by
                            show _ = _
                            rw [Pa.take_drop_succ _ r j _ lrj.out, ← List.append_assoc, ← htj.out]
                            exact ht2
                          have HB2 : Hid (Below w.heap.size w w2) := hbj.out.trans hb2
                          have HA2 : Hid (∀ i, i < j + 1 → ∃ x, s.data.toList[r + i]? = some x ∧ x ≠ 47) := (fun i hi => by
                            rcases Nat.lt_or_ge i j with h | h
                            · exact haj.out i h
                            · have : i = j := by omega
                              subst this
                              exact ⟨_, lrj.out, hSj⟩)
                          clear hz2 ht2 hb2
                          go_wp2
                          go_roundw
                          case rel => exact ⟨j + 1, c2, by first | go_num | (congr 1; omega), by first | go_num | (congr 1; omega), by omega, HZ2, HT2, HA2, HB2⟩
                          case measure => simp [RowKit.intOf]; omega
                      · have hTj : ¬ (((r + j : Nat) : Int) < (s.size : Int)) := by omega
                        have hTj' : ¬ ((r : Int) + (j : Int) < (s.size : Int)) := by omega
                        have HE : Hid (Cp.Inv s.data.toList d F T (cj.take (wv + 0 + j)) (r + j) tr) := by show Cp.Inv _ _ _ _ _ _ _; rw [htj.out]; exact hinv.out.elem hEl.out j (by omega) haj.out (.inl (by rw [HLEN.out]; omega))
                        go_wp2
                        go_roundw
                        case rel => exact ⟨r + j, wv + 0 + j, tr, cj, by first | rfl | go_num, by first | rfl | go_num, rfl, by omega, by omega, by omega, by omega, hzj, HE, hbj⟩
                        case measure => simp [RowKit.intOf]; omega
                · have tW : (1 : Int) < (wv : Int) := by omega
                  have hroom : wv < r + d := by
                    have h := hinv.out.room (by rw [HLEN.out]; exact hr) n47.out (by rw [HLW.out]; omega)
                    rwa [HLW.out] at h
                  go_wp2_with fail
                  refine (bufApp_any _ s (s.size + d) c wv 47 _ hz.out (by omega) (by omega)).mono ?_
                  rintro e w1 ⟨rfl, c1, hz1, ht1, hb1⟩
                  have HZ1 := Lib.hid hz1
                  have HT1 : Hid (c1.take (wv + 1 + 0) = (if 1 < (c.take wv).length then c.take wv ++ [47] else c.take wv) ++ (s.data.toList.drop r).take 0) := by
                    show _ = _
                    rw [HLW.out, if_pos (by omega), List.take_zero, List.append_nil]; exact ht1
                  have HB1 : Hid (Below w.heap.size w w1) := hbel.out.trans hb1
                  clear hz1 ht1 hb1
                  go_wp2
                  as_aux_lemma =>
                    go_loopw [5, 6] (fun vr vw wi => ∃ (j : Nat) (cj : List UInt8), vr = .int .i64 ((r + j : Nat) : Int) ∧ vw = .int .i64 ((wv + 1 + j : Nat) : Int) ∧ r + j ≤ s.size ∧ Hid (Bufd w.heap.size s (s.size + d) cj wi) ∧ Hid (cj.take (wv + 1 + j) = (if 1 < (c.take wv).length then c.take wv ++ [47] else c.take wv) ++ (s.data.toList.drop r).take j) ∧ Hid (∀ i, i < j → ∃ x, s.data.toList[r + i]? = some x ∧ x ≠ 47) ∧ Hid (Below w.heap.size w wi)) (fun vr _ _ => s.size - (RowKit.intOf vr).toNat)
                    case atStart => exact ⟨0, c1, rfl, rfl, by omega, HZ1, HT1, (fun i hi => absurd hi (Nat.not_lt_zero _)), HB1⟩
                    case round =>
                      obtain ⟨j, cj, rfl, rfl, hj, hzj, htj, haj, hbj⟩ := hrel
                      by_cases hlt : r + j < s.size
                      · have hTj : ((r + j : Nat) : Int) < (s.size : Int) := by omega
                        have hTj' : (r : Int) + (j : Int) < (s.size : Int) := by omega
                        have lrj : Hid (s.data.toList[r + j]? = some (s[r + j]'hlt)) := Pa.at_eq s (r + j) hlt
                        by_cases hSj : (s[r + j]'hlt) = 47
                        · have tj : (((s[r + j]'hlt).toNat : Int) != 47) = false := by rw [Pa.bne47]; simp [hSj]
                          have hj0 : 0 < j := by
                            rcases Nat.eq_zero_or_pos j with e | e
                            · subst e; exact absurd hSj hA
                            · exact e
                          have HE : Hid (Cp.Inv s.data.toList d F T (cj.take (wv + 1 + j)) (r + j) tr) := by show Cp.Inv _ _ _ _ _ _ _; rw [htj.out]; exact hinv.out.elem hEl.out j hj0 haj.out (.inr (by rw [lrj.out, hSj]))
                          go_wp2
                          go_roundw
                          case rel => exact ⟨r + j, wv + 1 + j, tr, cj, by first | rfl | go_num, by first | rfl | go_num, rfl, by omega, by omega, by omega, by omega, hzj, HE, hbj⟩
                          case measure => simp [RowKit.intOf]; omega
                        · have tj : (((s[r + j]'hlt).toNat : Int) != 47) = true := by rw [Pa.bne47]; simp [hSj]
                          go_wp2_with fail
                          refine (bufApp_any _ s (s.size + d) cj (wv + 1 + j) (s[r + j]'hlt) _ hzj.out (by omega) (by omega)).mono ?_
                          rintro e w2 ⟨rfl, c2, hz2, ht2, hb2⟩
                          have HZ2 := Lib.hid hz2
                          have HT2 : Hid (c2.take (wv + 1 + (j + 1)) = (if 1 < (c.take wv).length then c.take wv ++ [47] else c.take wv) ++ (s.data.toList.drop r).take (j + 1)) := by
                            show _ = _
                            rw [Pa.take_drop_succ _ r j _ lrj.out, ← List.append_assoc, ← htj.out]
                            exact ht2
                          have HB2 : Hid (Below w.heap.size w w2) := hbj.out.trans hb2
                          have HA2 : Hid (∀ i, i < j + 1 → ∃ x, s.data.toList[r + i]? = some x ∧ x ≠ 47) := (fun i hi => by
                            rcases Nat.lt_or_ge i j with h | h
                            · exact haj.out i h
                            · have : i = j := by omega
                              subst this
                              exact ⟨_, lrj.out, hSj⟩)
                          clear hz2 ht2 hb2
                          go_wp2
                          go_roundw
                          case rel => exact ⟨j + 1, c2, by first | go_num | (congr 1; omega), by first | go_num | (congr 1; omega), by omega, HZ2, HT2, HA2, HB2⟩
                          case measure => simp [RowKit.intOf]; omega
                      · have hTj : ¬ (((r + j : Nat) : Int) < (s.size : Int)) := by omega
                        have hTj' : ¬ ((r : Int) + (j : Int) < (s.size : Int)) := by omega
                        have HE : Hid (Cp.Inv s.data.toList d F T (cj.take (wv + 1 + j)) (r + j) tr) := by show Cp.Inv _ _ _ _ _ _ _; rw [htj.out]; exact hinv.out.elem hEl.out j (by omega) haj.out (.inl (by rw [HLEN.out]; omega))
                        go_wp2
                        go_roundw
                        case rel => exact ⟨r + j, wv + 1 + j, tr, cj, by first | rfl | go_num, by first | rfl | go_num, rfl, by omega, by omega, by omega, by omega, hzj, HE, hbj⟩
                        case measure => simp [RowKit.intOf]; omega
        · have hT : ¬ ((r : Int) < (s.size : Int)) := by omega
          obtain ⟨hd1, hd2, hd3⟩ := hinv.out.done (by rw [HLEN.out]; omega)
          have hfin := hinv.out.fin (by rw [HLEN.out]; omega)
          rw [HLW.out, HLEN.out] at hfin
          have HJ := Lib.hid hd1
          subst hd2
          have HJL : Hid ((Cp.joined F).length = wv) := by show _ = _; rw [← HJ.out]; exact HLW.out
          clear hd1 hd3
          by_cases hw2 : 1 < wv
          · have tW : (1 : Int) < (wv : Int) := by omega
            by_cases htr : tr = true
            · have hroom := hfin htr
              clear hfin
              subst htr
              go_wp2_with fail
              refine (bufApp_any _ s (s.size + d) c wv 47 _ hz.out (by omega) (by omega)).mono ?_
              rintro e w1 ⟨rfl, c1, hz1, ht1, hb1⟩
              have HZ1 := Lib.hid hz1
              have HT1 : Hid (c1.take (wv + 1) = Cp.joined F ++ [47]) := by show _ = _; rw [ht1, HJ.out]
              have HB1 : Hid (Below w.heap.size w w1) := hbel.out.trans hb1
              clear hz1 ht1 hb1
              rcases HZ1.out.st with ⟨hB, hc⟩ | ⟨G, hG, hB, hR⟩
              · as_aux_lemma =>
                have cB : w1.cell? ⟨w.heap.size, 0, none⟩ = some (.slice none 0 0) := hB.cell (i := 0) (by omega)
                have hls : wv + 1 ≤ s.size := by
                  have h1 := HZ1.out.len
                  have h2 := HLEN.out
                  rw [hc] at h1
                  omega
                have hlsi : ((wv + 1 : Nat) : Int) ≤ (s.size : Int) := by omega
                have HFIN : Hid (s.extract 0 (wv + 1) = ⟨(Cp.res F true).toArray⟩) := by
                  show _ = _
                  rw [show Cp.res F true = Cp.joined F ++ [47] from if_pos ⟨rfl, by rw [HJL.out]; exact hw2⟩, ← HT1.out, hc, ← Pa.extract_upto]
                clear hB hc
                go_wp2
                go_ret
                exact ⟨congrArg (fun x => Ending.returned (.string x)) HFIN.out, HB1.out⟩
              · as_aux_lemma =>
                have cB : w1.cell? ⟨w.heap.size, 0, none⟩ = some (.slice (some ⟨G, 0, none⟩) (s.size + d) (s.size + d)) := hB.cell (i := 0) (by omega)
                have hle2 : ((wv + 1 : Nat) : Int) ≤ (s.size : Int) + (d : Int) := by omega
                have g := run_convert_bytes_arg (P := Try.prog) w1 26 5 Try.underlying26 Try.underlying5 G 0 (wv + 1) (s.size + d) ((c1.take (wv + 1)).map fun b => (b.toNat : Int)) (by rw [List.length_map, List.length_take, HZ1.out.len]; omega) (fun j hj => by
                  rw [Nat.zero_add, hR.cell (i := j) (by omega), Lz.getD_map, List.getElem?_take, if_pos hj]
                  rfl) 9 Try.underlying9
                obtain ⟨str, hstr⟩ : ∃ str, str = strOfNums ((c1.take (wv + 1)).map fun b => (b.toNat : Int)) := ⟨_, rfl⟩
                rw [← hstr] at g
                have HFIN : Hid (str = ⟨(Cp.res F true).toArray⟩) := by
                  show _ = _
                  rw [show Cp.res F true = Cp.joined F ++ [47] from if_pos ⟨rfl, by rw [HJL.out]; exact hw2⟩, ← HT1.out, hstr, Lz.strOfNums_map]
                clear hB hR hstr
                go_wp2
                go_ret
                exact ⟨congrArg (fun x => Ending.returned (.string x)) HFIN.out, HB1.out⟩
            · have htr2 : tr = false := by simpa using htr
              clear hfin htr
              subst htr2
              rcases hz.out.st with ⟨hB, hc⟩ | ⟨G, hG, hB, hR⟩
              · as_aux_lemma =>
                have cB : wr.cell? ⟨w.heap.size, 0, none⟩ = some (.slice none 0 0) := hB.cell (i := 0) (by omega)
                have hls : wv ≤ s.size := by
                  have h1 := hz.out.len
                  have h2 := HLEN.out
                  rw [hc] at h1
                  omega
                have hlsi : ((wv : Nat) : Int) ≤ (s.size : Int) := by omega
                have HFIN : Hid (s.extract 0 (wv) = ⟨(Cp.res F false).toArray⟩) := by
                  show _ = _
                  rw [show Cp.res F false = Cp.joined F from if_neg (by intro h; cases h.1), ← HJ.out, hc, ← Pa.extract_upto]
                clear hB hc
                go_wp2
                go_ret
                exact ⟨congrArg (fun x => Ending.returned (.string x)) HFIN.out, hbel.out⟩
              · as_aux_lemma =>
                have cB : wr.cell? ⟨w.heap.size, 0, none⟩ = some (.slice (some ⟨G, 0, none⟩) (s.size + d) (s.size + d)) := hB.cell (i := 0) (by omega)
                have hle2 : ((wv : Nat) : Int) ≤ (s.size : Int) + (d : Int) := by omega
                have g := run_convert_bytes_arg (P := Try.prog) wr 26 5 Try.underlying26 Try.underlying5 G 0 (wv) (s.size + d) ((c.take (wv)).map fun b => (b.toNat : Int)) (by rw [List.length_map, List.length_take, hz.out.len]; omega) (fun j hj => by
                  rw [Nat.zero_add, hR.cell (i := j) (by omega), Lz.getD_map, List.getElem?_take, if_pos hj]
                  rfl) 9 Try.underlying9
                obtain ⟨str, hstr⟩ : ∃ str, str = strOfNums ((c.take (wv)).map fun b => (b.toNat : Int)) := ⟨_, rfl⟩
                rw [← hstr] at g
                have HFIN : Hid (str = ⟨(Cp.res F false).toArray⟩) := by
                  show _ = _
                  rw [show Cp.res F false = Cp.joined F from if_neg (by intro h; cases h.1), ← HJ.out, hstr, Lz.strOfNums_map]
                clear hB hR hstr
                go_wp2
                go_ret
                exact ⟨congrArg (fun x => Ending.returned (.string x)) HFIN.out, hbel.out⟩
          · have tW : ¬ ((1 : Int) < (wv : Int)) := by omega
            clear hfin
            cases tr
            case false =>
              rcases hz.out.st with ⟨hB, hc⟩ | ⟨G, hG, hB, hR⟩
              · as_aux_lemma =>
                have cB : wr.cell? ⟨w.heap.size, 0, none⟩ = some (.slice none 0 0) := hB.cell (i := 0) (by omega)
                have hls : wv ≤ s.size := by
                  have h1 := hz.out.len
                  have h2 := HLEN.out
                  rw [hc] at h1
                  omega
                have hlsi : ((wv : Nat) : Int) ≤ (s.size : Int) := by omega
                have HFIN : Hid (s.extract 0 (wv) = ⟨(Cp.res F false).toArray⟩) := by
                  show _ = _
                  rw [show Cp.res F false = Cp.joined F from if_neg (by intro h; exact hw2 (by have := h.2; rwa [HJL.out] at this)), ← HJ.out, hc, ← Pa.extract_upto]
                clear hB hc
                go_wp2
                go_ret
                exact ⟨congrArg (fun x => Ending.returned (.string x)) HFIN.out, hbel.out⟩
              · as_aux_lemma =>
                have cB : wr.cell? ⟨w.heap.size, 0, none⟩ = some (.slice (some ⟨G, 0, none⟩) (s.size + d) (s.size + d)) := hB.cell (i := 0) (by omega)
                have hle2 : ((wv : Nat) : Int) ≤ (s.size : Int) + (d : Int) := by omega
                have g := run_convert_bytes_arg (P := Try.prog) wr 26 5 Try.underlying26 Try.underlying5 G 0 (wv) (s.size + d) ((c.take (wv)).map fun b => (b.toNat : Int)) (by rw [List.length_map, List.length_take, hz.out.len]; omega) (fun j hj => by
                  rw [Nat.zero_add, hR.cell (i := j) (by omega), Lz.getD_map, List.getElem?_take, if_pos hj]
                  rfl) 9 Try.underlying9
                obtain ⟨str, hstr⟩ : ∃ str, str = strOfNums ((c.take (wv)).map fun b => (b.toNat : Int)) := ⟨_, rfl⟩
                rw [← hstr] at g
                have HFIN : Hid (str = ⟨(Cp.res F false).toArray⟩) := by
                  show _ = _
                  rw [show Cp.res F false = Cp.joined F from if_neg (by intro h; exact hw2 (by have := h.2; rwa [HJL.out] at this)), ← HJ.out, hstr, Lz.strOfNums_map]
                clear hB hR hstr
                go_wp2
                go_ret
                exact ⟨congrArg (fun x => Ending.returned (.string x)) HFIN.out, hbel.out⟩
            case true =>
              rcases hz.out.st with ⟨hB, hc⟩ | ⟨G, hG, hB, hR⟩
              · as_aux_lemma =>
                have cB : wr.cell? ⟨w.heap.size, 0, none⟩ = some (.slice none 0 0) := hB.cell (i := 0) (by omega)
                have hls : wv ≤ s.size := by
                  have h1 := hz.out.len
                  have h2 := HLEN.out
                  rw [hc] at h1
                  omega
                have hlsi : ((wv : Nat) : Int) ≤ (s.size : Int) := by omega
                have HFIN : Hid (s.extract 0 (wv) = ⟨(Cp.res F true).toArray⟩) := by
                  show _ = _
                  rw [show Cp.res F true = Cp.joined F from if_neg (by intro h; exact hw2 (by have := h.2; rwa [HJL.out] at this)), ← HJ.out, hc, ← Pa.extract_upto]
                clear hB hc
                go_wp2
                go_ret
                exact ⟨congrArg (fun x => Ending.returned (.string x)) HFIN.out, hbel.out⟩
              · as_aux_lemma =>
                have cB : wr.cell? ⟨w.heap.size, 0, none⟩ = some (.slice (some ⟨G, 0, none⟩) (s.size + d) (s.size + d)) := hB.cell (i := 0) (by omega)
                have hle2 : ((wv : Nat) : Int) ≤ (s.size : Int) + (d : Int) := by omega
                have g := run_convert_bytes_arg (P := Try.prog) wr 26 5 Try.underlying26 Try.underlying5 G 0 (wv) (s.size + d) ((c.take (wv)).map fun b => (b.toNat : Int)) (by rw [List.length_map, List.length_take, hz.out.len]; omega) (fun j hj => by
                  rw [Nat.zero_add, hR.cell (i := j) (by omega), Lz.getD_map, List.getElem?_take, if_pos hj]
                  rfl) 9 Try.underlying9
                obtain ⟨str, hstr⟩ : ∃ str, str = strOfNums ((c.take (wv)).map fun b => (b.toNat : Int)) := ⟨_, rfl⟩
                rw [← hstr] at g
                have HFIN : Hid (str = ⟨(Cp.res F true).toArray⟩) := by
                  show _ = _
                  rw [show Cp.res F true = Cp.joined F from if_neg (by intro h; exact hw2 (by have := h.2; rwa [HJL.out] at this)), ← HJ.out, hstr, Lz.strOfNums_map]
                clear hB hR hstr
                go_wp2
                go_ret
                exact ⟨congrArg (fun x => Ending.returned (.string x)) HFIN.out, hbel.out⟩

end Go.Proofs.Ytbpcmemnjeaifaa
