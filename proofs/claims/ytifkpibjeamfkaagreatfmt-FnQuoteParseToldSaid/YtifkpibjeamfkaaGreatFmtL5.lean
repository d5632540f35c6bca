/- bytes.LastIndex of a newline; bytes.TrimSpace: is a stretch blank? -/
import Derived.Test.YtifkpibjeamfkaaGreatFmtL4
namespace Go.Proofs.YtifkpibjeamfkaaGreatFmt
open Go.RowKit Go.Proofs

/-- The last newline ahead of n, or -1. -/
def lastNL (T : List UInt8) : Nat → Int
  | 0 => -1
  | n + 1 => if ch T n = 10 then (n : Int) else lastNL T n
theorem lastNL_bd (T : List UInt8) (n : Nat) : -1 ≤ lastNL T n ∧ lastNL T n < n := by
  induction n with
  | zero => simp [lastNL]
  | succ n ih => simp only [lastNL]; split <;> omega

set_option maxHeartbeats 400000 in
theorem lastIndexByte_nl (T : List UInt8) (D n c : Nat) (w : World) (htxt : ∀ j, j < n → w.cell? ⟨D, j, none⟩ = some (.int .u8 (ch T j : Nat))) (hn : n ≤ 1152921504606846976) :
    Calls Tryz.prog 126 #[.slice (some ⟨D, 0, none⟩) n c, .int .u8 10] w fun e w' => e = .returned (.int .i64 (lastNL T n)) ∧ w = w' := by
  go_enter Tryz.func126, Tryz.ntmps126
  go_wp2
  go_loop [5] (fun i => ∃ k : Nat, k ≤ n ∧ i = .int .i64 ((k : Int) - 1) ∧ Hid (lastNL T n = lastNL T k)) (fun i => (intOf i + 1).toNat)
  case atStart => exact ⟨n, Nat.le_refl _, rfl, hide rfl⟩
  case round =>
    obtain ⟨k, hk, rfl, hrel⟩ := hrel
    rcases Nat.eq_zero_or_pos k with h0 | h0
    · subst h0
      go_wp2
      go_ret
      refine ⟨?_, rfl⟩
      rw [hrel.out]
      rfl
    · obtain ⟨j, rfl⟩ : ∃ j, k = j + 1 := ⟨k - 1, by omega⟩
      have hc := htxt j (by omega)
      have hch : ch T j < 256 := by unfold ch; exact UInt8.toNat_lt _
      rw [show ((j + 1 : Nat) : Int) - 1 = (j : Int) from by omega]
      have hlt : j < n := by omega
      clear htxt
      cases h10 : (((ch T j : Nat) : Int) == 10)
      · have hrel' : Hid (lastNL T n = lastNL T j) := by
          rw [beq_eq_false_iff_ne] at h10
          have := hrel.out
          simp only [lastNL] at this
          rw [if_neg (by omega)] at this
          exact this
        clear hrel
        go_wp2
        go_round
        case rel => exact ⟨j, by omega, rfl, hrel'⟩
        case measure => (simp [intOf] <;> omega)
      · have hrel' : Hid (lastNL T n = (j : Int)) := by
          rw [beq_iff_eq] at h10
          have := hrel.out
          simp only [lastNL] at this
          rw [if_pos (by omega)] at this
          exact this
        clear hrel
        go_wp2
        go_ret
        refine ⟨?_, rfl⟩
        rw [hrel'.out]
        rfl

theorem lastIndex_nl (T : List UInt8) (D n c X cx : Nat) (w : World) (htxt : ∀ j, j < n → w.cell? ⟨D, j, none⟩ = some (.int .u8 (ch T j : Nat))) (hn : n ≤ 1152921504606846976) (hx : w.cell? ⟨X, 0, none⟩ = some (.int .u8 10)) :
    Calls Tryz.prog 89 #[.slice (some ⟨D, 0, none⟩) n c, .slice (some ⟨X, 0, none⟩) 1 cx] w fun e w' => e = .returned (.int .i64 (lastNL T n)) ∧ w = w' := by
  have H := hide htxt
  clear htxt
  go_enter Tryz.func89, Tryz.ntmps89
  go_wp2_with (go_at_call 126; refine (lastIndexByte_nl _ _ _ _ _ H.out hn).mono ?_; rintro e w' ⟨rfl, rfl⟩)
  go_ret
  exact ⟨rfl, rfl⟩

/-- bytes.asciiSpace's cells. -/
def spN (c : Nat) : Int := if c = 32 ∨ (9 ≤ c ∧ c ≤ 13) then 1 else 0
def SpTab (w : World) : Prop := ∀ c, c < 128 → w.cell? ⟨2, c, none⟩ = some (.int .u8 (spN c))

set_option maxRecDepth 100000 in
set_option maxHeartbeats 400000 in
/-- A stretch that is blank. -/
theorem trimSpace_blank (T : List UInt8) (D o n c : Nat) (w : World) (htxt : ∀ j, j < n → w.cell? ⟨D, o + j, none⟩ = some (.int .u8 (ch T (o + j) : Nat))) (hn : n ≤ 1152921504606846976)
    (hb : ∀ j, j < n → ch T (o + j) = 32 ∨ ch T (o + j) = 9) (htab : SpTab w) :
    Calls Tryz.prog 90 #[.slice (some ⟨D, o, none⟩) n c] w fun e w' => e = .returned (.slice none 0 0) ∧ w = w' := by
  go_enter Tryz.func90, Tryz.ntmps90
  go_wp2
  go_loop [3, 4, 9] (fun _ _ i => ∃ k : Nat, k ≤ n ∧ i = .int .i64 (k : Int)) (fun _ _ i => (n - (intOf i)).toNat)
  case atStart => exact ⟨0, by omega, rfl⟩
  case round =>
    obtain ⟨k, hk, rfl⟩ := hrel
    rcases Nat.lt_or_ge k n with h0 | h0
    · have hc := htxt k h0
      have hs : w.cell? ⟨2, ch T (o + k), none⟩ = some (.int .u8 1) := by
        have := htab (ch T (o + k)) (by rcases hb k h0 with h | h <;> omega)
        rw [this]; unfold spN; rw [if_pos (by rcases hb k h0 with h | h <;> omega)]
      have hlt : ch T (o + k) < 128 := by rcases hb k h0 with h | h <;> omega
      clear htxt hb htab
      go_wp2
      go_round
      case rel => exact ⟨k + 1, by omega, by go_num⟩
      case measure => (simp [intOf] <;> omega)
    · go_wp2
      go_ret
      exact ⟨rfl, rfl⟩

def SomeSlice (w : World) (e : Ending) (w' : World) : Prop := ∃ a L c, e = .returned (.slice a L c) ∧ 0 < L ∧ w = w'

set_option maxRecDepth 100000 in
set_option maxHeartbeats 1000000 in
/-- A stretch that is not blank. -/
theorem trimSpace_some (T : List UInt8) (D o n c f : Nat) (w : World) (htxt : ∀ j, j < n → w.cell? ⟨D, o + j, none⟩ = some (.int .u8 (ch T (o + j) : Nat))) (hn : n ≤ 1152921504606846976) (hnc : n ≤ c) (hc : c ≤ 1152921504606846976)
    (hasc : ∀ j, ch T j < 128) (hf : f < n) (hb : ∀ j, j < f → ch T (o + j) = 32 ∨ ch T (o + j) = 9) (hfs : spN (ch T (o + f)) = 0) (htab : SpTab w) :
    Calls Tryz.prog 90 #[.slice (some ⟨D, o, none⟩) n c] w (SomeSlice w) := by
  go_enter Tryz.func90, Tryz.ntmps90
  go_wp2
  go_loop [0, 3, 4, 9] (fun s0 _ _ i => ∃ k : Nat, k ≤ f ∧ s0 = .slice (some ⟨D, o, none⟩) n c ∧ i = .int .i64 (k : Int)) (fun _ _ _ i => (n - (intOf i)).toNat)
  case atStart => exact ⟨0, by omega, rfl, rfl⟩
  case round =>
    obtain ⟨k, hk, rfl, rfl⟩ := hrel
    rcases Nat.lt_or_ge k f with h0 | h0
    · have hc := htxt k (by omega)
      have hs : w.cell? ⟨2, ch T (o + k), none⟩ = some (.int .u8 1) := by
        have := htab (ch T (o + k)) (by rcases hb k h0 with h | h <;> omega)
        rw [this]; unfold spN; rw [if_pos (by rcases hb k h0 with h | h <;> omega)]
      have hlt : ch T (o + k) < 128 := by rcases hb k h0 with h | h <;> omega
      have hkn : k < n := by omega
      clear htxt hb htab hasc
      go_wp2
      go_round
      case rel => exact ⟨k + 1, by omega, rfl, by go_num⟩
      case measure => (simp [intOf] <;> omega)
    · obtain rfl : k = f := by omega
      have hcf := htxt k (by omega)
      have hs : w.cell? ⟨2, ch T (o + k), none⟩ = some (.int .u8 0) := by
        rw [htab _ (hasc _), hfs]
      have hlt : ch T (o + k) < 128 := hasc _
      have HT := hide htxt
      have HA := hide hasc
      have HB := hide htab
      have HF := hide hfs
      clear htxt hb htab hasc hfs
      have hkc : k < c := by omega
      go_wp2
      go_loop [5, 6] (fun i _ => ∃ m : Nat, 0 < m ∧ m ≤ n - k ∧ i = .int .i64 ((m : Int) - 1)) (fun i _ => (intOf i + 1).toNat)
      case atStart => exact ⟨n - k, by omega, Nat.le_refl _, by first | rfl | go_num⟩
      case round =>
        obtain ⟨m, hm0, hm, rfl⟩ := hrel
        obtain ⟨j, rfl⟩ : ∃ j, m = j + 1 := ⟨m - 1, by omega⟩
        rw [show ((j + 1 : Nat) : Int) - 1 = (j : Int) from by omega]
        have hcj := HT.out (k + j) (by omega)
        rw [← Nat.add_assoc] at hcj
        have hltj : ch T (o + k + j) < 128 := HA.out _
        have hsj := HB.out (ch T (o + k + j)) hltj
        have hj0 : spN (ch T (o + k + j)) = 0 ∨ spN (ch T (o + k + j)) = 1 := by unfold spN; split <;> simp
        have hjn : j < n - k := by omega
        rcases hj0 with e | e
        · rw [e] at hsj
          clear e
          go_wp2
          go_ret
          exact ⟨_, _, _, rfl, by omega, rfl⟩
        · rw [e] at hsj
          have hjp : 0 < j := by
            rcases Nat.eq_zero_or_pos j with h | h
            · subst h
              rw [Nat.add_zero, HF.out] at e
              cases e
            · exact h
          clear e
          go_wp2
          go_round
          case rel => exact ⟨j, hjp, by omega, by first | rfl | go_num⟩
          case measure => (simp [intOf] <;> omega)
end Go.Proofs.YtifkpibjeamfkaaGreatFmt
