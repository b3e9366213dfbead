/- insertChild: what is left of a path is laid below a node. -/
import Derived.Test.YtcobbbbnmepmfaaStep
import Derived.Deep.LoopGhost
import Derived.Laws.NewBlocks
namespace Go.Proofs.Ytcobbbbnmepmfaa
open Go Go.RowKit Go.Lib Tr

set_option maxHeartbeats 8000000 in
set_option maxRecDepth 100000 in
theorem insert_any (w : World) (pth full : ByteArray) (n : Nat) (FIN : World → Prop) (cur : Nat) (d : Dec) (p0 : ByteArray) (h0 : Option Nat) (P : List Tok) (hl : pth.size ≤ 2147483647)
    (h : InAt pth.data.toList n FIN cur .st d p0 h0 P 0 0 (wilds pth.data.toList) w) :
    Calls Try.prog 42 #[.pointer (some ⟨cur, 0, none⟩), .int .u8 (wilds pth.data.toList : Nat), .string pth, .string full, hV (some n)] w (fun e w' => e = .returned (.tuple #[]) ∧ FIN w') := by
  obtain ⟨np0, hnp0⟩ : ∃ np0, np0 = wilds pth.data.toList := ⟨_, rfl⟩
  rw [← hnp0] at h ⊢
  have hnp2 := h.le20
  have HLEN : Hid (pth.data.toList.length = pth.size) := (Lib.size_eq pth).symm
  have HI := Lib.hid h
  clear h hnp0
  obtain ⟨hv, hhv⟩ : ∃ hv, hv = hV (some n) := ⟨_, rfl⟩
  rw [← hhv]
  have HHV := Lib.hid hhv
  clear hhv
  go_enter Try.func42, Try.ntmps42
  go_wp2
  go_loopw [0, 1, 10, 11] (fun vc vn vo vi wr => ∃ (cur : Nat) (tag : Tag) (d : Dec) (p0 : ByteArray) (h0 : Option Nat) (P : List Tok) (off i np : Nat), vc = .pointer (some ⟨cur, 0, none⟩) ∧ vn = .int .u8 np ∧ vo = .int .i64 off ∧ vi = .int .i64 i ∧ np ≤ 20 ∧ i ≤ pth.size ∧ off ≤ pth.size ∧
    Hid (InAt pth.data.toList n FIN cur tag d p0 h0 P off i np wr)) (fun _ _ _ vi _ => pth.size + 1 - (RowKit.intOf vi).toNat)
  case atStart => exact ⟨cur, .st, d, p0, h0, P, 0, 0, np0, rfl, rfl, rfl, rfl, hnp2, by omega, by omega, HI⟩
  case round =>
    clear HI hnp2
    obtain ⟨cur, tag, d, p0, h0, P, off, i, np, rfl, rfl, rfl, rfl, hnp, hi, hoff, HI⟩ := hrel
    by_cases hz : np = 0
    · have tz : ¬ (0 : Int) < (np : Int) := by omega
      have hf0 : wr.frozen? ⟨cur, 0, none⟩ = false := HI.out.rep.free 0
      have hf7 : wr.frozen? ⟨cur, 7, none⟩ = false := HI.out.rep.free 7
      have hc0 : wr.cell? ⟨cur, 0, none⟩ = some (.string p0) := HI.out.rep.c0
      have hc7 : wr.cell? ⟨cur, 7, none⟩ = some (hV h0) := HI.out.rep.c7
      have hex : ∃ k, hv = .iface 3 (.int .i64 k) := ⟨n, HHV.out⟩
      obtain ⟨hk, hhk⟩ := hex
      have HF : Hid (FIN ((wr.setCell ⟨cur, 0, none⟩ (.string (pth.extract off pth.size))).setCell ⟨cur, 7, none⟩ hv)) := by
        show FIN _
        rw [HHV.out]
        exact HI.out.fin hz _ (by rw [Lib.extract_to_end])
      clear hz
      have k1 : (off : Int) ≤ (pth.size : Int) := by omega
      subst hhk
      go_wp2
      go_end0
      exact ⟨rfl, HF.out⟩
    · have tz : (0 : Int) < (np : Int) := by omega
      have hil : i < pth.size := by
        apply Classical.byContradiction
        intro hge
        have := HI.out.eqn
        rw [List.drop_eq_nil_of_le (by rw [HLEN.out]; omega)] at this
        exact hz this
      have hb1 : (0 : Int) ≤ (i : Int) ∧ (i : Int) < (pth.size : Int) := by omega
      by_cases h58 : (pth[i]'hil) = 58
      · have t1 : (((pth[i]'hil).toNat : Int) != 58) = false := by rw [h58]; rfl
        have t1' : (((pth[i]'hil).toNat : Int) == 58) = true := by rw [h58]; rfl
        have hst : tag = .st := by
          rcases HI.out.kind with h | h
          · exact h.1
          · exact absurd h.2.2.2.2.1 hz
        subst hst
        have hC : ∃ q x s3, ColonAt pth.data.toList P off i np q x s3 := by
          rcases HI.out.kind with h | h
          · obtain ⟨sl, hv⟩ := HI.out.val
            have hx := Pa.at_eq pth i hil
            rw [h58] at hx
            refine colon_at HI.out.text hv ?_ h.2.2.1 hx HI.out.eqn
            apply Classical.byContradiction
            intro hlt
            obtain ⟨y, h1, h2⟩ := h.2.2.2.1 i (Nat.le_refl _) (by omega)
            rw [hx] at h1
            exact h2.1 (Option.some.inj h1).symm
          · cases h.1
        obtain ⟨q, x, s3, hC⟩ := hC
        obtain ⟨m, hm⟩ : ∃ m, m = x.length := ⟨_, rfl⟩
        have hle : i + 1 + m ≤ pth.size := by rw [hm, ← HLEN.out]; exact hC.le
        have hm1 : 1 ≤ m := by have := List.length_pos_iff.2 hC.nm.1; omega
        have hio : off ≤ i := by have := hC.ql; omega
        have HC := Lib.hid hC
        have HM := Lib.hid hm
        clear hC hm h58
        obtain ⟨ao, ac, hao⟩ := arrV_slice d.arr 0
        have hc6 : wr.cell? ⟨cur, 6, none⟩ = some (.slice ao 0 ac) := by
          have := HI.out.rep.c6
          rw [show ([] : List HT).length = 0 from rfl, hao] at this
          rw [this]; cases d.arr <;> rfl
        clear hao
        have hf0 : wr.frozen? ⟨cur, 0, none⟩ = false := HI.out.rep.free 0
        have hf1 : wr.frozen? ⟨cur, 1, none⟩ = false := HI.out.rep.free 1
        have hf6 : wr.frozen? ⟨cur, 6, none⟩ = false := HI.out.rep.free 6
        have hc0 : wr.cell? ⟨cur, 0, none⟩ = some (.string p0) := HI.out.rep.c0
        have hc1 : wr.cell? ⟨cur, 1, none⟩ = some (.bool false) := HI.out.rep.c1
        have hclt : cur < wr.heap.size := HI.out.rep.blt
        go_wp2
        go_loop [14] (fun ve => ∃ e : Nat, ve = .int .i64 e ∧ i + 1 ≤ e ∧ e ≤ i + 1 + m) (fun ve => pth.size - (RowKit.intOf ve).toNat)
        case atStart => exact ⟨i + 1, by go_num, by omega, by omega⟩
        case round =>
          obtain ⟨e, rfl, he1, he2⟩ := hrel
          by_cases hlt : e < i + 1 + m
          · have hel : e < pth.size := by omega
            have hte : (e : Int) < (pth.size : Int) := by omega
            have hat : plain (pth[e]'hel) ∧ (pth[e]'hel) ≠ 47 := by
              obtain ⟨y, h1, h2⟩ := HC.out.at_ (e - (i + 1)) (by rw [← HM.out]; omega)
              rw [show i + 1 + (e - (i + 1)) = e from by omega, Pa.at_eq pth e hel] at h1
              rw [Option.some.inj h1]; exact h2
            have t2 : (((pth[e]'hel).toNat : Int) != 47) = true := by rw [Pa.bne47]; simpa using hat.2
            have t3 : (((pth[e]'hel).toNat : Int) == 58) = false := by
              rw [show ((58 : Int)) = ((58 : UInt8).toNat : Int) from rfl, beq_u8]; simpa using hat.1.1
            have t4 : (((pth[e]'hel).toNat : Int) == 42) = false := by
              rw [show ((42 : Int)) = ((42 : UInt8).toNat : Int) from rfl, beq_u8]; simpa using hat.1.2
            clear hat
            go_wp2
            go_round
            case rel => exact ⟨e + 1, by go_num, by omega, by omega⟩
            case measure => simp [RowKit.intOf]; omega
          · obtain rfl : e = i + 1 + m := by omega
            clear hlt he1 he2
            by_cases hend : i + 1 + m < pth.size
            · have hte : ((i + 1 + m : Nat) : Int) < (pth.size : Int) := by omega
              have hat : (pth[i + 1 + m]'hend) = 47 := by
                rcases HC.out.stop with h1 | h1
                · rw [HLEN.out, ← HM.out] at h1; omega
                · rw [← HM.out, Pa.at_eq pth (i + 1 + m) hend] at h1
                  exact Option.some.inj h1
              have t2 : (((pth[i + 1 + m]'hend).toNat : Int) != 47) = false := by rw [hat]; rfl
              by_cases hi0 : 0 < i
              · as_aux_lemma =>
                have ti : (0 : Int) < (i : Int) := by omega
                have hs3 : s3 ≠ [] := by
                  intro e0
                  have h1 := HC.out.rest
                  rw [e0] at h1
                  have h2 := congrArg List.length h1
                  simp only [List.length_drop, enc, List.length_nil, HLEN.out, ← HM.out] at h2
                  omega
                have hqx : (pth.extract off i).data.toList = q := by rw [Lib.extract_data]; exact HC.out.q_
                have hpx : (pth.extract i (i + 1 + m)).data.toList = 58 :: x := by
                  rw [Lib.extract_data, show i + 1 + m - i = x.length + 1 from by rw [← HM.out]; omega]
                  exact HC.out.x_
                obtain ⟨pc, dc, e1, e2, e3, e4, e5, e6, e7, e8⟩ := (cur_rows HI.out HC.out (pth.extract off i) hqx).1 hi0
                obtain ⟨d2, hnew⟩ := InAt.more HI.out HC.out hs3 ((((Kept.refl [cur] wr).setCell (p := ⟨cur, 0, none⟩) (.inl (by simp)) (.string (pth.extract off i))).setCell (p := ⟨cur, 6, none⟩) (.inl (by simp)) (.slice (some ⟨wr.heap.size + 1, 0, none⟩) 1 1)).setCell (p := ⟨cur, 1, none⟩) (.inl (by simp)) (.bool true)) (by simp [World.setCell]) e1 e2 e3 e4 e5 e6 e7 e8 hpx
                have HNEW := Lib.hid hnew
                have HOFF : Hid (i + 1 + x.length = i + 1 + m) := by show _ = _; rw [HM.out]
                rw [HOFF.out] at HNEW
                clear hnew e1 e2 e3 e4 e5 e6 e7 e8 hqx hpx hat
                have hnp1 : 1 ≤ np := by omega
                go_wp2
                go_roundw
                case rel => exact ⟨wr.heap.size + 1 + 1, .st, d2, ⟨#[]⟩, none, s3, i + 1 + m, i + 1, np - 1, rfl, by first | rfl | go_num | (congr 1; omega), by go_num, by go_num, by omega, by omega, by omega, HNEW⟩
                case measure => simp [RowKit.intOf]; omega
              · as_aux_lemma =>
                have ti : ¬ (0 : Int) < (i : Int) := by omega
                have hs3 : s3 ≠ [] := by
                  intro e0
                  have h1 := HC.out.rest
                  rw [e0] at h1
                  have h2 := congrArg List.length h1
                  simp only [List.length_drop, enc, List.length_nil, HLEN.out, ← HM.out] at h2
                  omega
                have hqx : (pth.extract off i).data.toList = q := by rw [Lib.extract_data]; exact HC.out.q_
                have hpx : (pth.extract off (i + 1 + m)).data.toList = 58 :: x := by
                  rw [show off = i from by omega, Lib.extract_data, show i + 1 + m - i = x.length + 1 from by rw [← HM.out]; omega]
                  exact HC.out.x_
                obtain ⟨pc, dc, e1, e2, e3, e4, e5, e6, e7, e8⟩ := (cur_rows HI.out HC.out (pth.extract off i) hqx).2 hi0
                obtain ⟨d2, hnew⟩ := InAt.more HI.out HC.out hs3 (((Kept.refl [cur] wr).setCell (p := ⟨cur, 6, none⟩) (.inl (by simp)) (.slice (some ⟨wr.heap.size + 1, 0, none⟩) 1 1)).setCell (p := ⟨cur, 1, none⟩) (.inl (by simp)) (.bool true)) (by simp [World.setCell]) e1 e2 e3 e4 e5 e6 e7 e8 hpx
                have HNEW := Lib.hid hnew
                have HOFF : Hid (i + 1 + x.length = i + 1 + m) := by show _ = _; rw [HM.out]
                rw [HOFF.out] at HNEW
                clear hnew e1 e2 e3 e4 e5 e6 e7 e8 hqx hpx hat
                have hnp1 : 1 ≤ np := by omega
                go_wp2
                go_roundw
                case rel => exact ⟨wr.heap.size + 1 + 1, .st, d2, ⟨#[]⟩, none, s3, i + 1 + m, i + 1, np - 1, rfl, by first | rfl | go_num | (congr 1; omega), by go_num, by go_num, by omega, by omega, by omega, HNEW⟩
                case measure => simp [RowKit.intOf]; omega
            · have hte : ¬ ((i + 1 + m : Nat) : Int) < (pth.size : Int) := by omega
              have hte' : ¬ (i : Int) + 1 + (m : Int) < (pth.size : Int) := by omega
              by_cases hi0 : 0 < i
              · as_aux_lemma =>
                have ti : (0 : Int) < (i : Int) := by omega
                have hs3 : s3 = [] := by
                  have h1 := HC.out.rest
                  have h2 := congrArg List.length h1
                  simp only [List.length_drop, HLEN.out, ← HM.out] at h2
                  rw [← enc_nil_iff]
                  exact List.eq_nil_of_length_eq_zero (by omega)
                have hC2 : ColonAt pth.data.toList P off i np q x [] := by have := HC.out; rwa [hs3] at this
                have hqx : (pth.extract off i).data.toList = q := by rw [Lib.extract_data]; exact HC.out.q_
                obtain ⟨pc, dc, e1, e2, e3, e4, e5, e6, e7, e8⟩ := (cur_rows HI.out HC.out (pth.extract off i) hqx).1 hi0
                obtain ⟨d2, hnew⟩ := InAt.pend HI.out hC2 ((((Kept.refl [cur] wr).setCell (p := ⟨cur, 0, none⟩) (.inl (by simp)) (.string (pth.extract off i))).setCell (p := ⟨cur, 6, none⟩) (.inl (by simp)) (.slice (some ⟨wr.heap.size + 1, 0, none⟩) 1 1)).setCell (p := ⟨cur, 1, none⟩) (.inl (by simp)) (.bool true)) (by simp [World.setCell]) e1 e2 e3 e4 e5 e6 e7 e8
                have HNEW := Lib.hid hnew
                clear hnew e1 e2 e3 e4 e5 e6 e7 e8 hqx hs3 hC2
                have hnp1 : 1 ≤ np := by omega
                go_wp2
                go_roundw
                case rel => exact ⟨wr.heap.size, .pm, d2, ⟨#[]⟩, none, [.par x], i, i + 1, np - 1, rfl, by first | rfl | go_num | (congr 1; omega), by first | rfl | go_num, by go_num, by omega, by omega, by omega, HNEW⟩
                case measure => simp [RowKit.intOf]; omega
              · as_aux_lemma =>
                have ti : ¬ (0 : Int) < (i : Int) := by omega
                have hs3 : s3 = [] := by
                  have h1 := HC.out.rest
                  have h2 := congrArg List.length h1
                  simp only [List.length_drop, HLEN.out, ← HM.out] at h2
                  rw [← enc_nil_iff]
                  exact List.eq_nil_of_length_eq_zero (by omega)
                have hC2 : ColonAt pth.data.toList P off i np q x [] := by have := HC.out; rwa [hs3] at this
                have hqx : (pth.extract off i).data.toList = q := by rw [Lib.extract_data]; exact HC.out.q_
                obtain ⟨pc, dc, e1, e2, e3, e4, e5, e6, e7, e8⟩ := (cur_rows HI.out HC.out (pth.extract off i) hqx).2 hi0
                obtain ⟨d2, hnew⟩ := InAt.pend HI.out hC2 (((Kept.refl [cur] wr).setCell (p := ⟨cur, 6, none⟩) (.inl (by simp)) (.slice (some ⟨wr.heap.size + 1, 0, none⟩) 1 1)).setCell (p := ⟨cur, 1, none⟩) (.inl (by simp)) (.bool true)) (by simp [World.setCell]) e1 e2 e3 e4 e5 e6 e7 e8
                have HNEW := Lib.hid hnew
                have HOFF : Hid (off = i) := by
                  show _ = _
                  omega
                clear hnew e1 e2 e3 e4 e5 e6 e7 e8 hqx hs3 hC2
                have hnp1 : 1 ≤ np := by omega
                go_wp2
                go_roundw
                case rel => exact ⟨wr.heap.size, .pm, d2, ⟨#[]⟩, none, [.par x], i, i + 1, np - 1, rfl, by first | rfl | go_num | (congr 1; omega), (by rw [HOFF.out]), by go_num, by omega, by omega, by omega, HNEW⟩
                case measure => simp [RowKit.intOf]; omega
      · have t1 : (((pth[i]'hil).toNat : Int) != 58) = true := by
          rw [bne, show ((58 : Int)) = ((58 : UInt8).toNat : Int) from rfl, beq_u8]; simpa using h58
        have t1' : (((pth[i]'hil).toNat : Int) == 58) = false := by
          rw [show ((58 : Int)) = ((58 : UInt8).toNat : Int) from rfl, beq_u8]; simpa using h58
        have hpi := Pa.at_eq pth i hil
        by_cases h42 : (pth[i]'hil) = 42
        · as_aux_lemma =>
          have t2 : (((pth[i]'hil).toNat : Int) != 42) = false := by rw [h42]; rfl
          have hst : tag = .st := by
            rcases HI.out.kind with h | h
            · exact h.1
            · exact absurd h.2.2.2.2.1 hz
          subst hst
          have hC : ∃ q z, StarAt pth.data.toList P off i np q z := by
            rcases HI.out.kind with h | h
            · obtain ⟨sl, hv⟩ := HI.out.val
              rw [h42] at hpi
              refine star_at HI.out.text hv ?_ h.2.2.1 hpi HI.out.eqn
              apply Classical.byContradiction
              intro hlt
              obtain ⟨y, h1, h2⟩ := h.2.2.2.1 i (Nat.le_refl _) (by omega)
              rw [hpi] at h1
              exact h2.2 (Option.some.inj h1).symm
            · cases h.1
          obtain ⟨q, z, hC⟩ := hC
          have hraw : p0 = ⟨#[]⟩ ∧ h0 = none ∧ d.arr = none := by
            rcases HI.out.kind with ⟨_, _, _, _, h5⟩ | h
            · rcases h5 with ⟨h6, h7, h8, _⟩ | ⟨_, _, ⟨x, s, h6⟩, _⟩
              · exact ⟨h6, h7, h8⟩
              · exfalso
                have := hC.p
                rw [h6] at this
                cases q <;> cases this
            · cases h.1
          obtain ⟨rfl, rfl, harr⟩ := hraw
          obtain ⟨m, hm⟩ : ∃ m, m = z.length := ⟨_, rfl⟩
          have hle : i + 1 + m = pth.size := by rw [hm, ← HLEN.out]; exact hC.le
          have hm1 : 1 ≤ m := by have := List.length_pos_iff.2 hC.nm.1; omega
          have hio : off + 1 ≤ i := by have := hC.ql; omega
          have hnp1 : np = 1 := hC.np
          have HC := Lib.hid hC
          have HM := Lib.hid hm
          have hlei : (i : Int) + 1 + (m : Int) = (pth.size : Int) := by omega
          have HLE := Lib.hid hle
          have HLEI := Lib.hid hlei
          have hle2 : i + 1 + m ≤ pth.size := by omega
          have hle3 : pth.size ≤ i + 1 + m := by omega
          clear hC hm h42 hpi hle hlei
          subst hnp1
          have hc6 : wr.cell? ⟨cur, 6, none⟩ = some (.slice none 0 0) := by
            have := HI.out.rep.c6
            rw [harr] at this
            exact this
          have HARR := Lib.hid harr
          clear harr
          have hf0 : wr.frozen? ⟨cur, 0, none⟩ = false := HI.out.rep.free 0
          have hf3 : wr.frozen? ⟨cur, 3, none⟩ = false := HI.out.rep.free 3
          have hf5 : wr.frozen? ⟨cur, 5, none⟩ = false := HI.out.rep.free 5
          have hf6 : wr.frozen? ⟨cur, 6, none⟩ = false := HI.out.rep.free 6
          have hc0 : wr.cell? ⟨cur, 0, none⟩ = some (.string ⟨#[]⟩) := HI.out.rep.c0
          have hc3 : wr.cell? ⟨cur, 3, none⟩ = some (.int .u8 (d.mp : Int)) := HI.out.rep.c3
          have hc5 : wr.cell? ⟨cur, 5, none⟩ = some (.string d.ix) := HI.out.rep.c5
          have hclt : cur < wr.heap.size := HI.out.rep.blt
          have hsl : i - 1 < pth.size := by omega
          have hslash : (pth[i - 1]'hsl) = 47 := by
            have h1 := HC.out.slash
            rw [Pa.at_eq pth (i - 1) hsl] at h1
            exact Option.some.inj h1
          have t5 : (((pth[i - 1]'hsl).toNat : Int) != 47) = false := by rw [hslash]; rfl
          have b5 : (0 : Int) ≤ (i : Int) - 1 ∧ (i : Int) - 1 < (pth.size : Int) := by omega
          go_wp2
          go_loop [14] (fun ve => ∃ e : Nat, ve = .int .i64 e ∧ i + 1 ≤ e ∧ e ≤ i + 1 + m) (fun ve => pth.size - (RowKit.intOf ve).toNat)
          case atStart => exact ⟨i + 1, by go_num, by omega, by omega⟩
          case round =>
            obtain ⟨e, rfl, he1, he2⟩ := hrel
            by_cases hlt : e < i + 1 + m
            · have hel : e < pth.size := by omega
              have hte : (e : Int) < (pth.size : Int) := by omega
              have hat : plain (pth[e]'hel) ∧ (pth[e]'hel) ≠ 47 := by
                obtain ⟨y, h1, h2⟩ := HC.out.at_ (e - (i + 1)) (by rw [← HM.out]; omega)
                rw [show i + 1 + (e - (i + 1)) = e from by omega, Pa.at_eq pth e hel] at h1
                rw [Option.some.inj h1]; exact h2
              have t2 : (((pth[e]'hel).toNat : Int) != 47) = true := by rw [Pa.bne47]; simpa using hat.2
              have t3 : (((pth[e]'hel).toNat : Int) == 58) = false := by
                rw [show ((58 : Int)) = ((58 : UInt8).toNat : Int) from rfl, beq_u8]; simpa using hat.1.1
              have t4 : (((pth[e]'hel).toNat : Int) == 42) = false := by
                rw [show ((42 : Int)) = ((42 : UInt8).toNat : Int) from rfl, beq_u8]; simpa using hat.1.2
              clear hat
              go_wp2
              go_round
              case rel => exact ⟨e + 1, by go_num, by omega, by omega⟩
              case measure => simp [RowKit.intOf]; omega
            · obtain rfl : e = pth.size := by omega
              clear hlt he1 he2
              have te : ((pth.size : Int) != (pth.size : Int)) = false := by simp
              have tnp : ¬ (1 : Int) < ((1 : Nat) : Int) := by omega
              go_wp2_with fail
              go_quiet (fail)
              have hpc : (pth.extract off (i - 1)).data.toList = q := by rw [Lib.extract_data]; exact HC.out.q_
              have hpz : (pth.extract (i - 1) pth.size).data.toList = 47 :: 42 :: z := by rw [Lib.extract_to_end]; exact HC.out.z_
              have hnt : d.nt < 2 := by
                rcases HI.out.kind with h | h
                · exact h.2.1
                · cases h.1
              obtain ⟨ty, e0⟩ := HI.out.rep.row
              have e : (wr.drewN nq).heap[cur]? = some (.cells (vals .st d ⟨#[]⟩ none ([] : List HT).length) ty (0, 0)) := e0
              clear e0
              have hex : hv = .iface 3 (.int .i64 n) := HHV.out
              subst hex
              by_cases hmp : d.mp < 1
              · as_aux_lemma =>
                have tmp : ((d.mp : Int)) < 1 := by omega
                have hfin := HI.out.star HC.out ((((((Kept.refl [cur] wr).drewN nq).setCell (p := ⟨cur, 0, none⟩) (.inl (by simp)) (.string (pth.extract off (i - 1)))).setCell (p := ⟨cur, 3, none⟩) (.inl (by simp)) (.int .u8 1)).setCell (p := ⟨cur, 6, none⟩) (.inl (by simp)) (.slice (some ⟨wr.heap.size + 1, 0, none⟩) 1 1)).setCell (p := ⟨cur, 5, none⟩) (.inl (by simp)) (.string (Utf8.encode 47))) (by simp [World.setCell]) (mp := 1) hpc hpz (ix := Utf8.encode 47) (by decide) hnt ⟨ty, by
                  rw [row_set (row_set (row_set (row_set e _ _) _ _) _ _) _ _]
                  rfl⟩
                have HFIN := Lib.hid hfin
                clear hfin hpc hpz e
                go_wp2
                (try simp only [Exit.inBlock, Exit.then])
                refine bodyPost_ret (results_none rfl _ _ _) rfl ?_
                exact ⟨rfl, HFIN.out⟩
              · as_aux_lemma =>
                have tmp : ¬ ((d.mp : Int)) < 1 := by omega
                have hfin := HI.out.star HC.out (((((Kept.refl [cur] wr).drewN nq).setCell (p := ⟨cur, 0, none⟩) (.inl (by simp)) (.string (pth.extract off (i - 1)))).setCell (p := ⟨cur, 6, none⟩) (.inl (by simp)) (.slice (some ⟨wr.heap.size + 1, 0, none⟩) 1 1)).setCell (p := ⟨cur, 5, none⟩) (.inl (by simp)) (.string (Utf8.encode 47))) (by simp [World.setCell]) (mp := d.mp) hpc hpz (ix := Utf8.encode 47) (by decide) hnt ⟨ty, by
                  rw [row_set (row_set (row_set e _ _) _ _) _ _]
                  rfl⟩
                have HFIN := Lib.hid hfin
                clear hfin hpc hpz e
                go_wp2
                (try simp only [Exit.inBlock, Exit.then])
                refine bodyPost_ret (results_none rfl _ _ _) rfl ?_
                exact ⟨rfl, HFIN.out⟩
        · have t2 : (((pth[i]'hil).toNat : Int) != 42) = true := by
            rw [bne, show ((42 : Int)) = ((42 : UInt8).toNat : Int) from rfl, beq_u8]; simpa using h42
          have HNEW : Hid (InAt pth.data.toList n FIN cur tag d p0 h0 P off (i + 1) np wr) := HI.out.next hz hpi ⟨h58, h42⟩
          clear hpi
          go_wp2
          go_roundw
          case rel => exact ⟨cur, tag, d, p0, h0, P, off, i + 1, np, rfl, rfl, rfl, by go_num, by omega, by omega, by omega, HNEW⟩
          case measure => simp [RowKit.intOf]; omega

end Go.Proofs.Ytcobbbbnmepmfaa
