/- The reference's Decimal, from 2 to 999. -/
import Derived.Test.YtifkpibjeamfkaaGreatFmtE4
import Derived.Test.YtifkpibjeamfkaaGreatFmtC12
set_option linter.unusedVariables false
namespace Go.Proofs.YtifkpibjeamfkaaGreatFmt
open Go.RowKit Go.Proofs

/-- A number from 2 to 999 as text: one to three digits, the first one not 0, and not 1 alone. -/
structure DecF (D : ByteArray) : Prop where
  pos : 0 < D.size
  len : D.size ≤ 3
  digs : ∀ k, k < D.size → digB (bt D k) = true
  lead : bt D 0 ≠ 48
  one : D.size = 1 → bt D 0 ≠ 49

def dgt (n : Nat) : UInt8 := UInt8.ofNat (48 + n % 10)
theorem dgt_nat (n : Nat) : (dgt n).toNat = 48 + n % 10 := by
  have := Nat.mod_lt n (show 0 < 10 by omega)
  simp [dgt, UInt8.toNat_ofNat']
  omega

theorem conv_one (w : World) (n : Nat) : (convert 69 9 (.slice (some ⟨w.heap.size, 0, none⟩) 1 1)).run Tryz.prog (w.alloc (Obj.cells #[Value.int .u8 (48 + (n : Int) % 10)] 5)) = .ok (.string (mkS [dgt n])) (w.alloc (Obj.cells #[Value.int .u8 (48 + (n : Int) % 10)] 5)) := by
  have h := run_convert_bytes_arg (P := Tryz.prog) (w.alloc (Obj.cells #[Value.int .u8 (48 + (n : Int) % 10)] 5)) 69 5 (by kernel_rfl) (by kernel_rfl) w.heap.size 0 1 1 [48 + (n : Int) % 10] rfl (fun i hi => by
    obtain rfl : i = 0 := by omega
    simp) 9 (by kernel_rfl)
  rw [h]
  have e : (48 + (n : Int) % 10) = (((dgt n).toNat : Nat) : Int) := by rw [dgt_nat]; omega
  have e2 : strOfNums [48 + (n : Int) % 10] = mkS [dgt n] := by
    rw [e]; exact strOfNums_mk [dgt n]
  rw [e2]

def decS (n : Nat) : ByteArray := if n < 10 then mkS [dgt n] else if n < 100 then mkS [dgt (n / 10)] ++ mkS [dgt n] else mkS [dgt (n / 10 / 10)] ++ (mkS [dgt (n / 10)] ++ mkS [dgt n])
theorem bsl_mkS (l : List UInt8) : bsl (mkS l) = l := rfl
theorem bsl_app (a b : ByteArray) : bsl (a ++ b) = bsl a ++ bsl b := by simp [bsl, ByteArray.data_append]
theorem digB_dgt (n : Nat) : digB (dgt n).toNat = true := by
  rw [dgt_nat]
  have := Nat.mod_lt n (show 0 < 10 by omega)
  simp only [digB, decide_eq_true_eq]; omega
theorem decF_of {D : ByteArray} (l : List UInt8) (hb : bsl D = l) (h0 : 0 < l.length) (h3 : l.length ≤ 3) (hd : ∀ c ∈ l, digB c.toNat = true) (hl : ch l 0 ≠ 48) (h1 : l.length = 1 → ch l 0 ≠ 49) : DecF D := by
  have hs : D.size = l.length := by rw [← bsl_len, hb]
  refine ⟨by omega, by omega, fun k hk => ?_, ?_, fun h => ?_⟩
  · rw [bt_ch, hb]
    obtain ⟨c, hc, e⟩ := ch_mem l k (by omega)
    rw [e]; exact hd c hc
  · rw [bt_ch, hb]; exact hl
  · rw [bt_ch, hb]; exact h1 (by omega)
theorem decS_ok (n : Nat) (h2 : 2 ≤ n) (h : n ≤ 999) : DecF (decS n) := by
  unfold decS
  split
  · refine decF_of [dgt n] rfl (by simp) (by simp) (by simp [digB_dgt]) ?_ (fun _ => ?_) <;> (simp only [ch, List.getD_cons_zero, dgt_nat]; omega)
  · split
    · refine decF_of [dgt (n / 10), dgt n] (by rw [bsl_app]; rfl) (by simp) (by simp) (by simp [digB_dgt]) ?_ (fun h => by simp at h)
      simp only [ch, List.getD_cons_zero, dgt_nat]; omega
    · refine decF_of [dgt (n / 10 / 10), dgt (n / 10), dgt n] (by rw [bsl_app, bsl_app]; rfl) (by simp) (by simp) (by simp [digB_dgt]) ?_ (fun h => by simp at h)
      simp only [ch, List.getD_cons_zero, dgt_nat]; omega

set_option maxRecDepth 100000 in
set_option maxHeartbeats 2000000 in
theorem decimal_any (n : Nat) (w : World) (h2 : 2 ≤ n) (h9 : n ≤ 999) : Calls Tryz.prog 15 #[.int .i64 (n : Int)] w fun e w' => e = .returned (.string (decS n)) ∧ Below w.heap.size w w' := by
  have hcv := fun (W : World) (m : Nat) => conv_one W m
  have b0 : (0 : Int) ≤ (n : Int) := by omega
  have b1 : (n : Int) ≤ 999 := by omega
  rcases Nat.lt_or_ge n 10 with c1 | c1
  · have g1 : ¬ (0 : Int) < (n : Int) / 10 := by omega
    go_enter Tryz.func15, Tryz.ntmps15
    go_wp2_with fail
    refine wp_loop_rounds 1 ?_
    rw [rounds_succ]
    go_wp2_with fail
    go_ret
    exact ⟨by unfold decS; rw [if_pos c1]; rfl, (Below.refl _ _).alloc (Nat.le_refl _) _⟩
  · have g1 : (0 : Int) < (n : Int) / 10 := by omega
    have e1 : (n : Int) / 10 = ((n / 10 : Nat) : Int) := by omega
    have b2 : (0 : Int) ≤ (n : Int) / 10 := by omega
    have cv1 := conv_one (w.alloc (Obj.cells #[Value.int .u8 (48 + (n : Int) % 10)] 5)) (n / 10)
    rw [← e1, show (w.alloc (Obj.cells #[Value.int .u8 (48 + (n : Int) % 10)] 5)).heap.size = w.heap.size + 1 from by simp] at cv1
    rcases Nat.lt_or_ge n 100 with c2 | c2
    · have g2 : ¬ (0 : Int) < (n : Int) / 10 / 10 := by omega
      clear e1
      go_enter Tryz.func15, Tryz.ntmps15
      go_wp2_with fail
      refine wp_loop_rounds 2 ?_
      rw [rounds_succ]
      go_wp2_with fail
      rw [rounds_succ]
      go_wp2_with fail
      go_ret
      exact ⟨by unfold decS; rw [if_neg (by omega), if_pos c2]; rfl, ((Below.refl _ _).alloc (Nat.le_refl _) _).alloc (by simp) _⟩
    · have g2 : (0 : Int) < (n : Int) / 10 / 10 := by omega
      have g3 : ¬ (0 : Int) < (n : Int) / 10 / 10 / 10 := by omega
      have e2 : (n : Int) / 10 / 10 = ((n / 10 / 10 : Nat) : Int) := by omega
      have b3 : (0 : Int) ≤ (n : Int) / 10 / 10 := by omega
      have cv2 := conv_one ((w.alloc (Obj.cells #[Value.int .u8 (48 + (n : Int) % 10)] 5)).alloc (Obj.cells #[Value.int .u8 (48 + (n : Int) / 10 % 10)] 5)) (n / 10 / 10)
      rw [← e2, show ((w.alloc (Obj.cells #[Value.int .u8 (48 + (n : Int) % 10)] 5)).alloc (Obj.cells #[Value.int .u8 (48 + (n : Int) / 10 % 10)] 5)).heap.size = w.heap.size + 1 + 1 from by simp] at cv2
      clear e1 e2
      go_enter Tryz.func15, Tryz.ntmps15
      go_wp2_with fail
      refine wp_loop_rounds 3 ?_
      rw [rounds_succ]
      go_wp2_with fail
      rw [rounds_succ]
      go_wp2_with fail
      rw [rounds_succ]
      go_wp2_with fail
      go_ret
      exact ⟨by unfold decS; rw [if_neg (by omega), if_neg (by omega)]; rfl, (((Below.refl _ _).alloc (Nat.le_refl _) _).alloc (by simp) _).alloc (by simp; omega) _⟩
end Go.Proofs.YtifkpibjeamfkaaGreatFmt
