/- addRoute's round: behind incrementChildPrio the child is found, and what is left is below it. -/
import Derived.Test.YtcobbbbnmepmfaaRoPrio
namespace Go.Proofs.Ytcobbbbnmepmfaa
open Go Go.RowKit Go.Lib Tr

theorem prio_next {w0 w w' : World} {T0 : HT} {b : Nat} {d : Dec} {p : ByteArray} {h : Option Nat} {A B : List HT} {k : HT} {s0 s s' : List Tok} {n np : Nat} {full pth pth' : ByteArray} {c : UInt8} {v8 : Value} {kk : Nat} {e : Ending}
    (ha : AddAt w0 T0 s0 n full pth (.mk .st b d p h (A ++ k :: B)) s np w) (hs : s = toks .st p.data.toList ++ s') (hrest : pth'.data.toList = enc s') (hps : pth.size ≤ 2147483647) (hnp : np ≤ 20) (hpz : pth'.size + p.size = pth.size)
    (hsuf : ∃ A, full.data.toList = A ++ pth'.data.toList) (hrk : rk pth .st ≤ kk) (hkey : sKey s' = some c) (hk : key k = c) (hp : PrioPost w .st b d p h (A ++ k :: B) A.length e w') :
    ∃ m g cap kb : Nat, e = .returned (.int .i64 (m : Nat)) ∧ m < (A ++ k :: B).length ∧ w'.cell? ⟨b, 6, none⟩ = some (.slice (some ⟨g, 0, none⟩) (A ++ k :: B).length cap) ∧ w'.cell? ⟨g, m, none⟩ = some (.pointer (some ⟨kb, 0, none⟩)) ∧
      ∀ a', Fr a' (.pointer (some ⟨kb, 0, none⟩)) (.string pth') (.iface 3 (.int .i64 (n : Int))) (.string full) (.int .u8 (np : Int)) v8 → NextAt w0 T0 s0 n full kk a' w' := by
  obtain ⟨A', B', C', k', pr, ix', hkids, hlen, rfl, hrep, hkept, i1, i2, i3, cc, e1, e2, l1, l2⟩ := hp
  have hk2 : (A ++ k :: B)[A.length]? = some k := by simp
  have hk3 : (A ++ k :: B)[A.length]? = some k' := by rw [hkids, ← hlen, ← List.append_assoc]; simp
  have hkk : k' = k := by rw [hk2] at hk3; exact (Option.some.inj hk3).symm
  subst hkk
  have hw := ha.wf
  rw [hkids] at ha hkept hw
  have hlike := Like.prio hw hrep hkept e1 e2 l1 l2
  have hne : s' ≠ [] := by intro e; rw [e] at hkey; cases hkey
  have hmk : k' ∈ A' ++ (B' ++ k' :: C') := by simp
  have hkt := st_kids hw k' hmk
  have hpm : k'.tag ≠ .pm := by
    intro e
    rcases hkt.2 with (h1 | h1) | h1 <;> rw [e] at h1 <;> cases h1
  have hbad : Bad (R (.mk .st b d p h (A' ++ (B' ++ k' :: C')))) s ↔ Bad (R (k'.setPr pr)) s' := by
    rw [setPr_R, hs]
    have h1 : A' ++ (B' ++ k' :: C') = (A' ++ B') ++ k' :: C' := by simp
    rw [h1] at hw ⊢
    exact st_down hw hkey hk
  have hnp' : np = cnt s' := by
    have h1 := ha.np2 (by intro e; cases e)
    rw [hs, cnt_toks (by intro e; cases e)] at h1
    simpa using h1
  have hdown := ha.down (np' := np) hlike hs hne hbad (fun e => by cases e) (by
    rcases hkt.2 with h1 | h1
    · exact .inl ⟨by rw [setPr_tag]; exact h1, by rw [setPr_key, hk]; exact hkey⟩
    · right; right
      refine ⟨by rw [setPr_tag]; exact h1, ?_⟩
      have h47 : key k' = 47 := by
        cases k' with
        | mk tg b1 d1 p1 h1' k1 =>
          have : tg = .ch := h1
          subst this
          obtain ⟨h2, _⟩ := hkt.1.top
          simp [key, HT.p, h2]
      rw [hkey, ← hk, h47]) (fun e => absurd e (by rw [setPr_tag]; exact hpm)) (fun _ => hnp') hrest hsuf
  obtain ⟨g, sp, hda⟩ : ∃ g sp, d.arr = some (g, sp) := by
    have h2 := ha.rep.node.2
    cases hda : d.arr with
    | none => simp only [hda] at h2; simp at h2
    | some q => exact ⟨q.1, q.2, rfl⟩
  have hlenE : (A' ++ k'.setPr pr :: (B' ++ C')).length = (A ++ k' :: B).length := by rw [hkids]; simp; omega
  refine ⟨A'.length, g, (A ++ k' :: B).length + sp.length, k'.b, rfl, by rw [hkids]; simp; omega, ?_, ?_, ?_⟩
  · have h6 := hrep.c6
    have ha' : ({ d with ix := ix' } : Dec).arr = some (g, sp) := hda
    rw [ha', hlenE] at h6
    exact h6
  · have := hrep.kidcell (A := A') (B := B' ++ C') (k := k'.setPr pr) (show ({ d with ix := ix' } : Dec).arr = some (g, sp) from hda)
    rw [setPr_b] at this
    exact this
  · intro a' hfr
    have hrk2 : rk pth' k'.tag < kk := by
      have h1 : rk pth .st = 2 * pth.size + 1 := rfl
      by_cases hch : k'.tag = .ch
      · have h2 : rk pth' k'.tag = 2 * pth'.size := by unfold rk; rw [if_pos hch]; omega
        omega
      · have h2 : rk pth' k'.tag = 2 * pth'.size + 1 := by unfold rk; rw [if_neg hch]
        have hp0 : 0 < p.size := by
          rcases Nat.eq_zero_or_pos p.size with h3 | h3
          · exfalso
            obtain ⟨_, _, _, _, _, _, h7⟩ := hw.top
            obtain ⟨_, k2, h8, h9⟩ := h7 (List.length_eq_zero_iff.1 h3)
            rw [h8] at hmk
            rw [List.mem_singleton.1 hmk] at hch
            exact hch h9
          · exact h3
        omega
    have hb' : (k'.setPr pr).b = k'.b := setPr_b k' pr
    clear hlenE hda hkt hbad hlike hrep hkids hk2 hk3 e1 hw hkept hmk hpm ha
    obtain ⟨ct, cb, cd, cp, ch, ck⟩ := k'
    exact ⟨pth', ct, cb, cp, ch, ck, s', np, v8, ⟨hfr, by omega, hnp, _, hdown⟩, hrk2⟩

end Go.Proofs.Ytcobbbbnmepmfaa
