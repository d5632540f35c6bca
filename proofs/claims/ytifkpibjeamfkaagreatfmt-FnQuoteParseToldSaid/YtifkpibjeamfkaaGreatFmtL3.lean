/- The lexer's peekPrefix, endToken. -/
import Derived.Test.YtifkpibjeamfkaaGreatFmtL2
namespace Go.Proofs.YtifkpibjeamfkaaGreatFmt
open Go.RowKit Go.Proofs

set_option maxHeartbeats 400000 in
theorem peekPrefix_yes0 (B D p N c : Nat) (w : World) (h2 : w.cell? ⟨B, 2, none⟩ = some (.slice (some ⟨D, p, none⟩) N c)) (hN : 1 < N) (hM : N ≤ 1152921504606846976)
    (hc0 : w.cell? ⟨D, p, none⟩ = some (.int .u8 47)) (hc1 : w.cell? ⟨D, p + 1, none⟩ = some (.int .u8 47)) :
    Calls Tryz.prog 87 #[.pointer (some ⟨B, 0, none⟩), .string ⟨#[47, 47]⟩] w fun e w' => e = .returned (.bool true) ∧ ∃ n, w' = w.drewN n := by
  have g0 : decide (N = 0) = false := by simp; omega
  have g1 : decide ((N : Int) ≤ 1) = false := by simp; omega
  have hN0 : (0 : Int) < (N : Int) := by omega
  have hN1 : (1 : Int) < (N : Int) := by omega
  have hN2 : 0 < N := by omega
  have b0 : ((⟨#[47, 47]⟩ : ByteArray)[0]'(by decide)).toNat = 47 := rfl
  have b1 : ((⟨#[47, 47]⟩ : ByteArray)[1]'(by decide)).toNat = 47 := rfl
  go_enter Tryz.func87, Tryz.ntmps87
  go_wp2
  refine wp_loop_rounds 3 ?_
  rw [rounds_succ]
  go_wp2
  go_quiet (fail)
  go_wp2
  rw [rounds_succ]
  go_wp2
  go_quiet (fail)
  go_wp2
  rw [rounds_succ]
  go_wp2
  go_ret
  first | exact ⟨rfl, _, rfl⟩ | exact ⟨rfl, _, World.drewN_drewN ..⟩

set_option maxHeartbeats 400000 in
theorem peekPrefix_no0sl (B : Nat) (a : Option Addr) (c : Nat) (w : World) (h2 : w.cell? ⟨B, 2, none⟩ = some (.slice a 0 c)) :
    Calls Tryz.prog 87 #[.pointer (some ⟨B, 0, none⟩), .string ⟨#[47, 47]⟩] w fun e w' => e = .returned (.bool false) ∧ ∃ n, w' = w.drewN n := by
  have b0 : ((⟨#[47, 47]⟩ : ByteArray)[0]'(by decide)).toNat = 47 := rfl
  have b1 : ((⟨#[47, 47]⟩ : ByteArray)[1]'(by decide)).toNat = 47 := rfl
  go_enter Tryz.func87, Tryz.ntmps87
  go_wp2
  refine wp_loop_rounds 3 ?_
  rw [rounds_succ]
  go_wp2
  go_quiet (fail)
  go_wp2
  go_ret
  first | exact ⟨rfl, _, rfl⟩ | exact ⟨rfl, _, World.drewN_drewN ..⟩

set_option maxHeartbeats 400000 in
theorem peekPrefix_no1sl (B D p N c : Nat) (k : Int) (w : World) (h2 : w.cell? ⟨B, 2, none⟩ = some (.slice (some ⟨D, p, none⟩) N c)) (hN : 0 < N) (hM : N ≤ 1152921504606846976)
    (hc0 : w.cell? ⟨D, p, none⟩ = some (.int .u8 k)) (hk : (k != 47) = true) :
    Calls Tryz.prog 87 #[.pointer (some ⟨B, 0, none⟩), .string ⟨#[47, 47]⟩] w fun e w' => e = .returned (.bool false) ∧ ∃ n, w' = w.drewN n := by
  have g0 : decide (N = 0) = false := by simp; omega
  have hN0 : (0 : Int) < (N : Int) := by omega
  have b0 : ((⟨#[47, 47]⟩ : ByteArray)[0]'(by decide)).toNat = 47 := rfl
  have b1 : ((⟨#[47, 47]⟩ : ByteArray)[1]'(by decide)).toNat = 47 := rfl
  go_enter Tryz.func87, Tryz.ntmps87
  go_wp2
  refine wp_loop_rounds 3 ?_
  rw [rounds_succ]
  go_wp2
  go_quiet (fail)
  go_wp2
  go_ret
  first | exact ⟨rfl, _, rfl⟩ | exact ⟨rfl, _, World.drewN_drewN ..⟩

set_option maxHeartbeats 400000 in
theorem peekPrefix_no2sl (B D p c : Nat) (w : World) (h2 : w.cell? ⟨B, 2, none⟩ = some (.slice (some ⟨D, p, none⟩) 1 c)) 
    (hc0 : w.cell? ⟨D, p, none⟩ = some (.int .u8 47)) :
    Calls Tryz.prog 87 #[.pointer (some ⟨B, 0, none⟩), .string ⟨#[47, 47]⟩] w fun e w' => e = .returned (.bool false) ∧ ∃ n, w' = w.drewN n := by
  have b0 : ((⟨#[47, 47]⟩ : ByteArray)[0]'(by decide)).toNat = 47 := rfl
  have b1 : ((⟨#[47, 47]⟩ : ByteArray)[1]'(by decide)).toNat = 47 := rfl
  go_enter Tryz.func87, Tryz.ntmps87
  go_wp2
  refine wp_loop_rounds 3 ?_
  rw [rounds_succ]
  go_wp2
  go_quiet (fail)
  go_wp2
  rw [rounds_succ]
  go_wp2
  go_quiet (fail)
  go_wp2
  go_ret
  first | exact ⟨rfl, _, rfl⟩ | exact ⟨rfl, _, World.drewN_drewN ..⟩

set_option maxHeartbeats 400000 in
theorem peekPrefix_no3sl (B D p N c : Nat) (k : Int) (w : World) (h2 : w.cell? ⟨B, 2, none⟩ = some (.slice (some ⟨D, p, none⟩) N c)) (hN : 1 < N) (hM : N ≤ 1152921504606846976)
    (hc0 : w.cell? ⟨D, p, none⟩ = some (.int .u8 47)) (hc1 : w.cell? ⟨D, p + 1, none⟩ = some (.int .u8 k)) (hk : (k != 47) = true) :
    Calls Tryz.prog 87 #[.pointer (some ⟨B, 0, none⟩), .string ⟨#[47, 47]⟩] w fun e w' => e = .returned (.bool false) ∧ ∃ n, w' = w.drewN n := by
  have g0 : decide (N = 0) = false := by simp; omega
  have g1 : decide ((N : Int) ≤ 1) = false := by simp; omega
  have hN0 : (0 : Int) < (N : Int) := by omega
  have hN1 : (1 : Int) < (N : Int) := by omega
  have hN2 : 0 < N := by omega
  have b0 : ((⟨#[47, 47]⟩ : ByteArray)[0]'(by decide)).toNat = 47 := rfl
  have b1 : ((⟨#[47, 47]⟩ : ByteArray)[1]'(by decide)).toNat = 47 := rfl
  go_enter Tryz.func87, Tryz.ntmps87
  go_wp2
  refine wp_loop_rounds 3 ?_
  rw [rounds_succ]
  go_wp2
  go_quiet (fail)
  go_wp2
  rw [rounds_succ]
  go_wp2
  go_quiet (fail)
  go_wp2
  go_ret
  first | exact ⟨rfl, _, rfl⟩ | exact ⟨rfl, _, World.drewN_drewN ..⟩

/-- Over the lexer's state: no comment of this kind begins here. -/
theorem peekPrefix_nosl (σ : Lx) (w : World) (h : LxAt w σ) (hno : ¬ (σ.p + 1 < σ.T.length ∧ ch σ.T σ.p = 47 ∧ ch σ.T (σ.p + 1) = 47)) :
    Calls Tryz.prog 87 #[.pointer (some ⟨σ.B, 0, none⟩), .string ⟨#[47, 47]⟩] w fun e w' => e = .returned (.bool false) ∧ ∃ n, w' = w.drewN n := by
  have h2 := h.c2
  have hn := h.hn
  have hCm := h.hC
  have hTm := h.hT
  have hp := h.hp
  by_cases h0 : σ.p = σ.T.length
  · rw [show σ.T.length - σ.p = 0 from by omega] at h2
    exact peekPrefix_no0sl _ _ _ _ h2
  have hq := h.hq (by omega)
  rw [hq] at h2
  have hc0 := h.txt σ.p (by omega)
  by_cases h1 : ch σ.T σ.p = 47
  · rw [h1] at hc0
    by_cases h3 : σ.p + 1 = σ.T.length
    · rw [show σ.T.length - σ.p = 1 from by omega] at h2
      exact peekPrefix_no2sl _ _ _ _ _ h2 hc0
    · have hc1 := h.txt (σ.p + 1) (by omega)
      exact peekPrefix_no3sl _ _ _ _ _ _ _ h2 (by omega) (by omega) hc0 hc1 (by rw [bne_iff_ne]; omega)
  · exact peekPrefix_no1sl _ _ _ _ _ _ _ h2 (by omega) (by omega) hc0 (by rw [bne_iff_ne]; omega)

set_option maxHeartbeats 400000 in
theorem peekPrefix_no0st (B : Nat) (a : Option Addr) (c : Nat) (w : World) (h2 : w.cell? ⟨B, 2, none⟩ = some (.slice a 0 c)) :
    Calls Tryz.prog 87 #[.pointer (some ⟨B, 0, none⟩), .string ⟨#[47, 42]⟩] w fun e w' => e = .returned (.bool false) ∧ ∃ n, w' = w.drewN n := by
  have b0 : ((⟨#[47, 42]⟩ : ByteArray)[0]'(by decide)).toNat = 47 := rfl
  have b1 : ((⟨#[47, 42]⟩ : ByteArray)[1]'(by decide)).toNat = 42 := rfl
  go_enter Tryz.func87, Tryz.ntmps87
  go_wp2
  refine wp_loop_rounds 3 ?_
  rw [rounds_succ]
  go_wp2
  go_quiet (fail)
  go_wp2
  go_ret
  first | exact ⟨rfl, _, rfl⟩ | exact ⟨rfl, _, World.drewN_drewN ..⟩

set_option maxHeartbeats 400000 in
theorem peekPrefix_no1st (B D p N c : Nat) (k : Int) (w : World) (h2 : w.cell? ⟨B, 2, none⟩ = some (.slice (some ⟨D, p, none⟩) N c)) (hN : 0 < N) (hM : N ≤ 1152921504606846976)
    (hc0 : w.cell? ⟨D, p, none⟩ = some (.int .u8 k)) (hk : (k != 47) = true) :
    Calls Tryz.prog 87 #[.pointer (some ⟨B, 0, none⟩), .string ⟨#[47, 42]⟩] w fun e w' => e = .returned (.bool false) ∧ ∃ n, w' = w.drewN n := by
  have g0 : decide (N = 0) = false := by simp; omega
  have hN0 : (0 : Int) < (N : Int) := by omega
  have b0 : ((⟨#[47, 42]⟩ : ByteArray)[0]'(by decide)).toNat = 47 := rfl
  have b1 : ((⟨#[47, 42]⟩ : ByteArray)[1]'(by decide)).toNat = 42 := rfl
  go_enter Tryz.func87, Tryz.ntmps87
  go_wp2
  refine wp_loop_rounds 3 ?_
  rw [rounds_succ]
  go_wp2
  go_quiet (fail)
  go_wp2
  go_ret
  first | exact ⟨rfl, _, rfl⟩ | exact ⟨rfl, _, World.drewN_drewN ..⟩

set_option maxHeartbeats 400000 in
theorem peekPrefix_no2st (B D p c : Nat) (w : World) (h2 : w.cell? ⟨B, 2, none⟩ = some (.slice (some ⟨D, p, none⟩) 1 c)) 
    (hc0 : w.cell? ⟨D, p, none⟩ = some (.int .u8 47)) :
    Calls Tryz.prog 87 #[.pointer (some ⟨B, 0, none⟩), .string ⟨#[47, 42]⟩] w fun e w' => e = .returned (.bool false) ∧ ∃ n, w' = w.drewN n := by
  have b0 : ((⟨#[47, 42]⟩ : ByteArray)[0]'(by decide)).toNat = 47 := rfl
  have b1 : ((⟨#[47, 42]⟩ : ByteArray)[1]'(by decide)).toNat = 42 := rfl
  go_enter Tryz.func87, Tryz.ntmps87
  go_wp2
  refine wp_loop_rounds 3 ?_
  rw [rounds_succ]
  go_wp2
  go_quiet (fail)
  go_wp2
  rw [rounds_succ]
  go_wp2
  go_quiet (fail)
  go_wp2
  go_ret
  first | exact ⟨rfl, _, rfl⟩ | exact ⟨rfl, _, World.drewN_drewN ..⟩

set_option maxHeartbeats 400000 in
theorem peekPrefix_no3st (B D p N c : Nat) (k : Int) (w : World) (h2 : w.cell? ⟨B, 2, none⟩ = some (.slice (some ⟨D, p, none⟩) N c)) (hN : 1 < N) (hM : N ≤ 1152921504606846976)
    (hc0 : w.cell? ⟨D, p, none⟩ = some (.int .u8 47)) (hc1 : w.cell? ⟨D, p + 1, none⟩ = some (.int .u8 k)) (hk : (k != 42) = true) :
    Calls Tryz.prog 87 #[.pointer (some ⟨B, 0, none⟩), .string ⟨#[47, 42]⟩] w fun e w' => e = .returned (.bool false) ∧ ∃ n, w' = w.drewN n := by
  have g0 : decide (N = 0) = false := by simp; omega
  have g1 : decide ((N : Int) ≤ 1) = false := by simp; omega
  have hN0 : (0 : Int) < (N : Int) := by omega
  have hN1 : (1 : Int) < (N : Int) := by omega
  have hN2 : 0 < N := by omega
  have b0 : ((⟨#[47, 42]⟩ : ByteArray)[0]'(by decide)).toNat = 47 := rfl
  have b1 : ((⟨#[47, 42]⟩ : ByteArray)[1]'(by decide)).toNat = 42 := rfl
  go_enter Tryz.func87, Tryz.ntmps87
  go_wp2
  refine wp_loop_rounds 3 ?_
  rw [rounds_succ]
  go_wp2
  go_quiet (fail)
  go_wp2
  rw [rounds_succ]
  go_wp2
  go_quiet (fail)
  go_wp2
  go_ret
  first | exact ⟨rfl, _, rfl⟩ | exact ⟨rfl, _, World.drewN_drewN ..⟩

/-- Over the lexer's state: no comment of this kind begins here. -/
theorem peekPrefix_nost (σ : Lx) (w : World) (h : LxAt w σ) (hno : ¬ (σ.p + 1 < σ.T.length ∧ ch σ.T σ.p = 47 ∧ ch σ.T (σ.p + 1) = 42)) :
    Calls Tryz.prog 87 #[.pointer (some ⟨σ.B, 0, none⟩), .string ⟨#[47, 42]⟩] w fun e w' => e = .returned (.bool false) ∧ ∃ n, w' = w.drewN n := by
  have h2 := h.c2
  have hn := h.hn
  have hCm := h.hC
  have hTm := h.hT
  have hp := h.hp
  by_cases h0 : σ.p = σ.T.length
  · rw [show σ.T.length - σ.p = 0 from by omega] at h2
    exact peekPrefix_no0st _ _ _ _ h2
  have hq := h.hq (by omega)
  rw [hq] at h2
  have hc0 := h.txt σ.p (by omega)
  by_cases h1 : ch σ.T σ.p = 47
  · rw [h1] at hc0
    by_cases h3 : σ.p + 1 = σ.T.length
    · rw [show σ.T.length - σ.p = 1 from by omega] at h2
      exact peekPrefix_no2st _ _ _ _ _ h2 hc0
    · have hc1 := h.txt (σ.p + 1) (by omega)
      exact peekPrefix_no3st _ _ _ _ _ _ _ h2 (by omega) (by omega) hc0 hc1 (by rw [bne_iff_ne]; omega)
  · exact peekPrefix_no1st _ _ _ _ _ _ _ h2 (by omega) (by omega) hc0 (by rw [bne_iff_ne]; omega)

theorem peekPrefix_yes (σ : Lx) (w : World) (h : LxAt w σ) (h1 : σ.p + 1 < σ.T.length) (h0 : ch σ.T σ.p = 47) (h3 : ch σ.T (σ.p + 1) = 47) :
    Calls Tryz.prog 87 #[.pointer (some ⟨σ.B, 0, none⟩), .string ⟨#[47, 47]⟩] w fun e w' => e = .returned (.bool true) ∧ ∃ n, w' = w.drewN n := by
  have h2 := h.c2
  have hn := h.hn
  have hCm := h.hC
  have hTm := h.hT
  have hq := h.hq (by omega)
  rw [hq] at h2
  have hc0 := h.txt σ.p (by omega)
  have hc1 := h.txt (σ.p + 1) (by omega)
  rw [h0] at hc0
  rw [h3] at hc1
  exact peekPrefix_yes0 _ _ _ _ _ _ h2 (by omega) (by omega) hc0 hc1
end Go.Proofs.YtifkpibjeamfkaaGreatFmt
