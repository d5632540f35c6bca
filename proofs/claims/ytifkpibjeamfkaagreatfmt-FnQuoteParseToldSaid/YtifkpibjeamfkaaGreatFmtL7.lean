/- The lexer's readToken: at the end of the file. -/
import Derived.Test.YtifkpibjeamfkaaGreatFmtL6
set_option linter.unusedVariables false
namespace Go.Proofs.YtifkpibjeamfkaaGreatFmt
open Go.RowKit Go.Proofs

/-- The same lexer at another place. -/
def Lx.go (σ : Lx) (j q : Nat) : Lx := { σ with p := j, q := q }
/-- The lexer behind a token. -/
def Lx.lexed (σ : Lx) (q : Nat) (ts : Value) (k : Int) (s e : Nat) (text : ByteArray) : Lx :=
  { σ with p := e, q := q, ts := ts, kind := k, tl := (lineAt σ.T s : Nat), tc := (colAt σ.T s : Nat), tb := (s : Nat), el := (lineAt σ.T e : Nat), ec := (colAt σ.T e : Nat), eb := (e : Nat), text := text }
/-- What a token read leaves. -/
def Lexed (w : World) (σ : Lx) (k : Int) (s e : Nat) (text : ByteArray) (en : Ending) (w' : World) : Prop :=
  ∃ q ts, en = .returned (.tuple #[]) ∧ (∃ a n c, ts = .slice a n c) ∧ LxAt w' (σ.lexed q ts k s e text) ∧ Kp (fun i => i = σ.B) w w'

theorem LxAt.drewN {w : World} {σ : Lx} (h : LxAt w σ) (n : Nat) : LxAt (w.drewN n) σ :=
  ⟨h.blk.drewN n, h.txt, h.ascii, h.hp, h.hn, h.hC, h.hT, h.hq, h.dat⟩
def IsSl (v : Value) : Prop := ∃ a n c, v = .slice a n c

theorem eof_at (σ : Lx) (w : World) (h : LxAt w σ) (b : Bool) (hb : (((σ.T.length - σ.p : Nat) : Int) == 0) = b) :
    Calls Tryz.prog 84 #[.pointer (some ⟨σ.B, 0, none⟩)] w fun e w' => e = .returned (.bool b) ∧ w = w' := by
  rw [← hb]; exact eof_any _ _ _ _ _ h.c2
theorem peekRune_at (σ : Lx) (w : World) (h : LxAt w σ) (hlt : σ.p < σ.T.length) (c : Nat) (hc : ch σ.T σ.p = c) :
    Calls Tryz.prog 85 #[.pointer (some ⟨σ.B, 0, none⟩)] w fun e w' => e = .returned (.int .i64 (c : Nat)) ∧ w = w' := by
  subst hc
  have := h.ascii σ.p
  exact peekRune_some _ _ _ _ _ _ _ h.c2 (by omega) (h.cur hlt) (by omega) (by omega)

theorem readRune_c (σ : Lx) (w : World) (h : LxAt w σ) (hlt : σ.p < σ.T.length) (c : Nat) (hc : ch σ.T σ.p = c) :
    Calls Tryz.prog 86 #[.pointer (some ⟨σ.B, 0, none⟩)] w fun e w' => e = .returned (.int .i64 (c : Nat)) ∧ LxAt w' σ.adv ∧ Kp (fun i => i = σ.B) w w' := by
  subst hc
  exact readRune_at σ w h hlt

theorem peekPrefix_nosl' (σ : Lx) (w : World) (h : LxAt w σ) (hno : ¬ (σ.p + 1 < σ.T.length ∧ ch σ.T σ.p = 47 ∧ ch σ.T (σ.p + 1) = 47)) :
    Calls Tryz.prog 87 #[.pointer (some ⟨σ.B, 0, none⟩), .string ⟨#[47, 47]⟩] w fun e w' => e = .returned (.bool false) ∧ LxAt w' σ ∧ Kp (fun i => i = σ.B) w w' :=
  (peekPrefix_nosl σ w h hno).mono fun e w' ⟨he, n, hw⟩ => ⟨he, hw ▸ h.drewN n, hw ▸ (Kp.refl _ _).drewN n⟩
theorem peekPrefix_nost' (σ : Lx) (w : World) (h : LxAt w σ) (hno : ¬ (σ.p + 1 < σ.T.length ∧ ch σ.T σ.p = 47 ∧ ch σ.T (σ.p + 1) = 42)) :
    Calls Tryz.prog 87 #[.pointer (some ⟨σ.B, 0, none⟩), .string ⟨#[47, 42]⟩] w fun e w' => e = .returned (.bool false) ∧ LxAt w' σ ∧ Kp (fun i => i = σ.B) w w' :=
  (peekPrefix_nost σ w h hno).mono fun e w' ⟨he, n, hw⟩ => ⟨he, hw ▸ h.drewN n, hw ▸ (Kp.refl _ _).drewN n⟩
theorem peekPrefix_yes' (σ : Lx) (w : World) (h : LxAt w σ) (h1 : σ.p + 1 < σ.T.length) (h0 : ch σ.T σ.p = 47) (h3 : ch σ.T (σ.p + 1) = 47) :
    Calls Tryz.prog 87 #[.pointer (some ⟨σ.B, 0, none⟩), .string ⟨#[47, 47]⟩] w fun e w' => e = .returned (.bool true) ∧ LxAt w' σ ∧ Kp (fun i => i = σ.B) w w' :=
  (peekPrefix_yes σ w h h1 h0 h3).mono fun e w' ⟨he, n, hw⟩ => ⟨he, hw ▸ h.drewN n, hw ▸ (Kp.refl _ _).drewN n⟩

set_option maxRecDepth 100000 in
set_option maxHeartbeats 2000000 in
theorem readToken_eof (σ : Lx) (w : World) (h : LxAt w σ) (hts : IsSl σ.ts) (hws : ∀ i, σ.p ≤ i → i < σ.T.length → ch σ.T i = 32 ∨ ch σ.T i = 9) :
    Calls Tryz.prog 59 #[.pointer (some ⟨σ.B, 0, none⟩)] w (Lexed w σ (-1) σ.T.length σ.T.length (mkS (seg σ.T σ.T.length σ.T.length))) := by
  have hp := h.hp
  go_enter Tryz.func59, Tryz.ntmps59
  go_wp2
  go_loopg [2, 3, 4] (σ.T.length - σ.p) (fun k _ _ _ wr => Hid (∃ j q, σ.p ≤ j ∧ j + k = σ.T.length ∧ LxAt wr (σ.go j q) ∧ Kp (fun i => i = σ.B) w wr))
  case atStart => exact hide ⟨σ.p, σ.q, Nat.le_refl _, by omega, h, Kp.refl _ _⟩
  case round =>
    obtain ⟨j, q, hj, hjk, hx, hkp⟩ := hrel.out
    clear hrel
    rcases Nat.eq_zero_or_pos gk with h0 | h0
    · subst h0
      obtain rfl : j = σ.T.length := by omega
      have hb : (((σ.T.length - σ.T.length : Nat) : Int) == 0) = true := by simp
      go_wp2_with (go_at_call 84; refine (eof_at (σ.go σ.T.length q) _ hx _ hb).mono ?_; rintro e w' ⟨rfl, rfl⟩)
      refine (startToken_at (σ.go σ.T.length q) _ hx hts).mono ?_
      rintro e w1 ⟨rfl, hx1, hk1⟩
      go_wp2_with fail
      refine (eof_at _ _ hx1 true (by simp [Lx.started, Lx.go])).mono ?_
      rintro e w2 ⟨rfl, rfl⟩
      go_wp2_with fail
      refine (endToken_plain _ σ.T.length q (-1) _ hx1 rfl (Nat.le_refl _) (fun hh => absurd hh (Nat.lt_irrefl _)) rfl rfl).mono ?_
      rintro e w2 ⟨rfl, hx2, hk2⟩
      go_wp2
      go_end0
      exact ⟨q, .slice (some ⟨σ.D, q, none⟩) (σ.T.length - σ.T.length) (σ.C - σ.T.length), rfl, ⟨_, _, _, rfl⟩, hx2, hkp.trans (hk1.trans hk2)⟩
    · have hb : (((σ.T.length - j : Nat) : Int) == 0) = false := by simp; omega
      have hw := hws j hj (by omega)
      have hl : (σ.go j q).p < (σ.go j q).T.length := by show j < σ.T.length; omega
      have h13 : (((ch σ.T j : Nat) : Int) == 13) = false := by simp; omega
      have hc32 : (((ch σ.T j : Nat) : Int) == 32) = true ∨ ((((ch σ.T j : Nat) : Int) == 32) = false ∧ (((ch σ.T j : Nat) : Int) == 9) = true) := by
        rcases hw with h | h
        · left; simp; omega
        · right; constructor <;> simp <;> omega
      have HW := hide hws
      clear hws hw
      rcases hc32 with hc | ⟨hc, hc9⟩
      all_goals
        go_wp2_with (first
          | (go_at_call 84; refine (eof_at (σ.go j q) _ hx _ hb).mono ?_; rintro e w' ⟨rfl, rfl⟩)
          | (go_at_call 85; refine (peekRune_at (σ.go j q) _ hx hl (ch σ.T j) rfl).mono ?_; rintro e w' ⟨rfl, rfl⟩)
          | (go_at_call 86; refine (readRune_c (σ.go j q) _ hx hl (ch σ.T j) rfl).mono ?_; rintro e w1 ⟨rfl, hx1, hk1⟩))
        go_roundg (gk - 1)
        case measure => omega
        case rel => exact hide ⟨j + 1, _, by omega, by omega, hx1, hkp.trans hk1⟩
end Go.Proofs.YtifkpibjeamfkaaGreatFmt
