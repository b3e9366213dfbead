/- addRoute on a tree that isn't empty: its contract. -/
import Derived.Test.YtcobbbbnmepmfaaRoLoop
namespace Go.Proofs.Ytcobbbbnmepmfaa
open Go Go.RowKit Go.Lib Tr

set_option maxHeartbeats 16000000 in
set_option maxRecDepth 100000 in
theorem addRoute_any (w : World) (T0 : HT) (s0 : List Tok) (n : Nat) (full : ByteArray) (hl : full.size ≤ 2147483647) (h : AddAt w T0 s0 n full full T0 s0 (cnt s0) w) (hpl : 0 < T0.p.size ∨ T0.kids ≠ []) :
    Calls Try.prog 37 #[.pointer (some ⟨T0.b, 0, none⟩), .string full, .iface 3 (.int .i64 (n : Int))] w (AddPost w T0 s0 n) := by
  have hwl : wilds full.data.toList = cnt s0 := by
    obtain ⟨sl, hv⟩ := h.val
    rw [h.text, wilds_enc s0 sl hv]
  have hcount := fun wx => countParams_any full wx hl (by rw [hwl]; have := h.le; omega)
  obtain ⟨np0, hnp0⟩ : ∃ np0, np0 = cnt s0 := ⟨_, rfl⟩
  rw [hwl, ← hnp0] at hcount
  have hnp20 : np0 ≤ 20 := by rw [hnp0]; exact h.le
  have hset : ∀ v : Int, AddAt w T0 s0 n full full (T0.setPr v) s0 np0 (w.setCell ⟨T0.b, 4, none⟩ (.int .u32 v)) := fun v => by rw [hnp0]; exact h.setPr v
  have HNEXT : Hid (∀ (v : Int) a', Fr a' (.pointer (some ⟨T0.b, 0, none⟩)) (.string full) (.iface 3 (.int .i64 (n : Int))) (.string full) (.int .u8 (np0 : Int)) (a'.tmps.getD 8 undef) → NextAt w T0 s0 n full (2 * full.size + 2) a' (w.setCell ⟨T0.b, 4, none⟩ (.int .u32 v))) := by
    intro v a' hfr
    have h1 := hset v
    clear hset h
    obtain ⟨ct, cb, cd, cp, ch, ck⟩ := T0
    refine ⟨full, ct, cb, cp, ch, ck, s0, np0, _, ⟨hfr, hl, hnp20, _, h1⟩, ?_⟩
    unfold rk
    split <;> omega
  obtain ⟨a6, c6, hc6⟩ : ∃ a c, w.cell? ⟨T0.b, 6, none⟩ = some (.slice a T0.kids.length c) := by
    have := h.rep
    cases T0 with
    | mk tag b d p hh kids => exact this.kidlen
  have hc0 : w.cell? ⟨T0.b, 0, none⟩ = some (.string T0.p) := by
    have := h.rep
    cases T0 with
    | mk tag b d p hh kids => exact this.c0
  obtain ⟨hc4, hf4⟩ := h.rep.pr
  have HCOUNT := Lib.hid hcount
  obtain ⟨T0b, hT0b⟩ : ∃ x, T0.b = x := ⟨_, rfl⟩
  obtain ⟨T0p, hT0p⟩ : ∃ x, T0.p = x := ⟨_, rfl⟩
  obtain ⟨L, hL⟩ : ∃ x, T0.kids.length = x := ⟨_, rfl⟩
  have hpl' : 0 < T0p.size ∨ (T0p.size = 0 ∧ 0 < L) := by
    rcases hpl with h1 | h1
    · exact .inl (by rw [← hT0p]; exact h1)
    · have := List.length_pos_iff.2 h1
      rw [hL] at this
      by_cases h2 : 0 < T0p.size
      · exact .inl h2
      · exact .inr ⟨by omega, this⟩
  rw [hT0b] at hc6 hc0 hc4 hf4 HNEXT ⊢
  rw [hT0p] at hc0
  rw [hL] at hc6
  clear h hwl hnp0 hcount hpl hset hT0b hT0p hL
  rcases hpl' with hp | ⟨hp, hk⟩
  · have tp : (0 : Int) < (T0p.size : Int) := by omega
    go_enter Try.func37, Try.ntmps37
    go_wp2_with (go_at_call 38; refine (HCOUNT.out _).mono ?_; rintro e w' ⟨rfl, rfl⟩)
    go_step3
    go_wp2_with fail
    go_step3
    go_wp2_with fail
    refine ro_loop hl (HNEXT.out _ _ ?_) ?_ ?_
    · exact ⟨rfl, rfl, rfl, rfl, rfl, rfl, rfl, rfl⟩
    · intro a w hd hq
      exact bodyPost_ret (results_none rfl _ _ _) hd hq
    · intro ch a w hd hq
      exact ⟨hd, hq⟩
  · have tp : ¬ (0 : Int) < (T0p.size : Int) := by omega
    have tk : (0 : Int) < (L : Int) := by omega
    go_enter Try.func37, Try.ntmps37
    go_wp2_with (go_at_call 38; refine (HCOUNT.out _).mono ?_; rintro e w' ⟨rfl, rfl⟩)
    go_step3
    go_wp2_with fail
    go_step3
    go_wp2_with fail
    refine ro_loop hl (HNEXT.out _ _ ?_) ?_ ?_
    · exact ⟨rfl, rfl, rfl, rfl, rfl, rfl, rfl, rfl⟩
    · intro a w hd hq
      exact bodyPost_ret (results_none rfl _ _ _) hd hq
    · intro ch a w hd hq
      exact ⟨hd, hq⟩

end Go.Proofs.Ytcobbbbnmepmfaa
