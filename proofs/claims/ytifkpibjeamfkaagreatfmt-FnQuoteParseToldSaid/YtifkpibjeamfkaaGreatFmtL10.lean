/- The lexer's readToken: quoted strings. -/
import Derived.Test.YtifkpibjeamfkaaGreatFmtL9
set_option linter.unusedVariables false
namespace Go.Proofs.YtifkpibjeamfkaaGreatFmt
open Go.RowKit Go.Proofs

/-- From i on: the rest of a quoted string, up to e (behind the closing quote). -/
inductive StrB (T : List UInt8) : Nat → Nat → Prop
  | fin (i : Nat) (h : i < T.length) (hc : ch T i = 34) : StrB T i (i + 1)
  | esc (i e : Nat) (h : i + 1 < T.length) (hc : ch T i = 92) (r : StrB T (i + 2) e) : StrB T i e
  | chr (i e : Nat) (h : i < T.length) (h1 : ch T i ≠ 34) (h2 : ch T i ≠ 92) (h3 : ch T i ≠ 10) (r : StrB T (i + 1) e) : StrB T i e
theorem StrB.lt {T : List UInt8} {i e : Nat} (h : StrB T i e) : i < e ∧ e ≤ T.length := by
  induction h with
  | fin i h _ => omega
  | esc i e h _ _ ih => omega
  | chr i e h _ _ _ _ ih => omega

set_option maxRecDepth 100000 in
set_option maxHeartbeats 4000000 in
theorem readToken_str (σ : Lx) (w : World) (s e : Nat) (h : LxAt w σ) (hts : IsSl σ.ts) (hps : σ.p ≤ s) (hsl : s < σ.T.length) (hws : ∀ i, σ.p ≤ i → i < s → ch σ.T i = 32 ∨ ch σ.T i = 9)
    (hs : ch σ.T s = 34) (hstr : StrB σ.T (s + 1) e) :
    Calls Tryz.prog 59 #[.pointer (some ⟨σ.B, 0, none⟩)] w (Lexed w σ (-4) s e (mkS (seg σ.T s e))) := by
  have hp := h.hp
  have HS := hide hs
  have HB := hide hstr
  clear hs hstr
  go_enter Tryz.func59, Tryz.ntmps59
  go_wp2
  go_loopg [2, 3, 4] (s - σ.p) (fun k _ _ _ wr => Hid (∃ j q, σ.p ≤ j ∧ j + k = s ∧ LxAt wr (σ.go j q) ∧ Kp (fun i => i = σ.B) w wr))
  case atStart => exact hide ⟨σ.p, σ.q, Nat.le_refl _, by omega, h, Kp.refl _ _⟩
  case round =>
    obtain ⟨j, q, hj, hjk, hx, hkp⟩ := hrel.out
    clear hrel
    have hb : (((σ.T.length - j : Nat) : Int) == 0) = false := by simp; omega
    have hl : (σ.go j q).p < (σ.go j q).T.length := by show j < σ.T.length; omega
    rcases Nat.eq_zero_or_pos gk with h0 | h0
    · subst h0
      obtain rfl : j = s := by omega
      have hno1 : ¬ ((σ.go j q).p + 1 < (σ.go j q).T.length ∧ ch (σ.go j q).T (σ.go j q).p = 47 ∧ ch (σ.go j q).T ((σ.go j q).p + 1) = 47) := by rintro ⟨_, h2, _⟩; have := HS.out; simp only [Lx.go] at h2; omega
      have hno2 : ¬ ((σ.go j q).p + 1 < (σ.go j q).T.length ∧ ch (σ.go j q).T (σ.go j q).p = 47 ∧ ch (σ.go j q).T ((σ.go j q).p + 1) = 42) := by rintro ⟨_, h2, _⟩; have := HS.out; simp only [Lx.go] at h2; omega
      go_wp2_with (first
        | (go_at_call 84; refine (eof_at (σ.go j q) _ hx _ hb).mono ?_; rintro e w' ⟨rfl, rfl⟩)
        | (go_at_call 85; refine (peekRune_at (σ.go j q) _ hx hl 34 HS.out).mono ?_; rintro e w' ⟨rfl, rfl⟩)
        | fail)
      refine (peekPrefix_nosl' (σ.go j q) _ hx hno1).mono ?_
      rintro e1 w1 ⟨rfl, hx, hk1⟩
      have hkp := hkp.trans hk1
      clear hk1
      go_wp2_with fail
      refine (peekPrefix_nost' (σ.go j q) _ hx hno2).mono ?_
      rintro e1 w1 ⟨rfl, hx, hk1⟩
      have hkp := hkp.trans hk1
      clear hk1
      go_wp2_with fail
      refine (startToken_at (σ.go j q) _ hx hts).mono ?_
      rintro e1 w1 ⟨rfl, hx1, hk1⟩
      have hkp := hkp.trans hk1
      clear hk1
      go_wp2_with fail
      refine (eof_at _ _ hx1 _ hb).mono ?_
      rintro e1 w' ⟨rfl, rfl⟩
      go_wp2_with fail
      refine (peekRune_at _ _ hx1 hl 34 HS.out).mono ?_
      rintro e1 w' ⟨rfl, rfl⟩
      go_wp2_with fail
      refine (readRune_c _ _ hx1 hl 34 HS.out).mono ?_
      rintro e1 w2 ⟨rfl, hx2, hk2⟩
      have hkp := hkp.trans hk2
      clear hk2
      have hqj : q = j := hx.hq (by have := h.hn; show j < σ.C; omega)
      have HQJ := hide hqj
      clear hqj
      go_wp2_with fail
      go_loopg [7] (e - (j + 1)) (fun k _ wr => Hid (∃ i q1, i + k = e ∧ j < i ∧ StrB σ.T i e ∧ LxAt wr ((σ.go j q).started.go i q1) ∧ Kp (fun i => i = σ.B) w wr))
      case atStart => exact hide ⟨j + 1, _, by have := HB.out.lt; omega, by omega, HB.out, hx2, hkp⟩
      case round =>
        obtain ⟨i, q1, hik, hji, hsb, hx3, hkp3⟩ := hrel.out
        clear hrel
        have hbl := hsb.lt
        have HIK := hide hik
        clear hik
        have hb2 : (((σ.T.length - i : Nat) : Int) == 0) = false := by simp; omega
        have hl2 : ((σ.go j q).started.go i q1).p < ((σ.go j q).started.go i q1).T.length := by show i < σ.T.length; omega
        cases hsb with
        | fin i h5 hc =>
          have HC := hide hc
          clear hc
          go_wp2_with fail
          refine (eof_at _ _ hx3 _ hb2).mono ?_
          rintro e1 w' ⟨rfl, rfl⟩
          go_wp2_with fail
          refine (peekRune_at _ _ hx3 hl2 34 HC.out).mono ?_
          rintro e1 w' ⟨rfl, rfl⟩
          go_wp2_with fail
          refine (readRune_c _ _ hx3 hl2 34 HC.out).mono ?_
          rintro e1 w4 ⟨rfl, hx4, hk4⟩
          have hkp4 := hkp3.trans hk4
          clear hk4
          go_wp2_with fail
          refine (endToken_plain _ j q (-4) _ hx4 rfl (by show j ≤ i + 1; omega) (fun _ => HQJ.out) rfl rfl).mono ?_
          rintro e1 w5 ⟨rfl, hx5, hk5⟩
          go_wp2
          go_end0
          exact ⟨_, .slice (some ⟨σ.D, q, none⟩) (σ.T.length - j) (σ.C - j), rfl, ⟨_, _, _, rfl⟩, hx5, hkp4.trans hk5⟩
        | esc i e h5 hc r =>
          have HC := hide hc
          have HR := hide r
          clear hc r
          have hb3 : (((σ.T.length - (i + 1) : Nat) : Int) == 0) = false := by simp; omega
          go_wp2_with fail
          refine (eof_at _ _ hx3 _ hb2).mono ?_
          rintro e1 w' ⟨rfl, rfl⟩
          go_wp2_with fail
          refine (peekRune_at _ _ hx3 hl2 92 HC.out).mono ?_
          rintro e1 w' ⟨rfl, rfl⟩
          go_wp2_with fail
          refine (readRune_c _ _ hx3 hl2 92 HC.out).mono ?_
          rintro e1 w4 ⟨rfl, hx4, hk4⟩
          have hkp4 := hkp3.trans hk4
          clear hk4
          go_wp2_with fail
          refine (eof_at _ _ hx4 _ hb3).mono ?_
          rintro e1 w' ⟨rfl, rfl⟩
          go_wp2_with fail
          refine (readRune_c _ _ hx4 h5 (ch σ.T (i + 1)) rfl).mono ?_
          rintro e1 w5 ⟨rfl, hx5, hk5⟩
          have hkp5 := hkp4.trans hk5
          clear hk5
          go_wp2
          go_roundg (gk - 2)
          case measure => have := HIK.out; omega
          case rel => exact hide ⟨i + 2, _, by have := HIK.out; have := HR.out.lt; omega, by omega, HR.out, hx5, hkp5⟩
        | chr i e h5 h6 h7 h8 r =>
          have HR := hide r
          clear r
          have f34 : (((ch σ.T i : Nat) : Int) == 34) = false := by simp; omega
          have f92 : (((ch σ.T i : Nat) : Int) == 92) = false := by simp; omega
          have f10 : (((ch σ.T i : Nat) : Int) == 10) = false := by simp; omega
          clear h6 h7 h8
          go_wp2_with fail
          refine (eof_at _ _ hx3 _ hb2).mono ?_
          rintro e1 w' ⟨rfl, rfl⟩
          go_wp2_with fail
          refine (peekRune_at _ _ hx3 hl2 (ch σ.T i) rfl).mono ?_
          rintro e1 w' ⟨rfl, rfl⟩
          go_wp2_with fail
          refine (readRune_c _ _ hx3 hl2 (ch σ.T i) rfl).mono ?_
          rintro e1 w4 ⟨rfl, hx4, hk4⟩
          have hkp4 := hkp3.trans hk4
          clear hk4
          go_wp2
          go_roundg (gk - 1)
          case measure => have := HIK.out; omega
          case rel => exact hide ⟨i + 1, _, by have := HIK.out; have := HR.out.lt; omega, by omega, HR.out, hx4, hkp4⟩
    · have hw := hws j hj (by omega)
      have h13 : (((ch σ.T j : Nat) : Int) == 13) = false := by simp; omega
      have hc32 : (((ch σ.T j : Nat) : Int) == 32) = true ∨ ((((ch σ.T j : Nat) : Int) == 32) = false ∧ (((ch σ.T j : Nat) : Int) == 9) = true) := by
        rcases hw with h | h
        · left; simp; omega
        · right; constructor <;> simp <;> omega
      have HW := hide hws
      clear hws hw
      rcases hc32 with hc | ⟨hc, hc9⟩
      all_goals
        go_wp2_with (first
          | (go_at_call 84; refine (eof_at (σ.go j q) _ hx _ hb).mono ?_; rintro e w' ⟨rfl, rfl⟩)
          | (go_at_call 85; refine (peekRune_at (σ.go j q) _ hx hl (ch σ.T j) rfl).mono ?_; rintro e w' ⟨rfl, rfl⟩)
          | (go_at_call 86; refine (readRune_c (σ.go j q) _ hx hl (ch σ.T j) rfl).mono ?_; rintro e w1 ⟨rfl, hx1, hk1⟩))
        go_roundg (gk - 1)
        case measure => omega
        case rel => exact hide ⟨j + 1, _, by omega, by omega, hx1, hkp.trans hk1⟩
end Go.Proofs.YtifkpibjeamfkaaGreatFmt
