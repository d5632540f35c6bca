/- strconv.index, contains, UnquoteChar at what Quote writes. -/
import Derived.Test.YtifkpibjeamfkaaGreatFmtQ1
import Derived.Lib.Bytealg
import Derived.Laws.Externs
import Derived.Deep.Draws
import Derived.Deep.QuietTactic
set_option linter.unusedVariables false
namespace Go.Proofs.YtifkpibjeamfkaaGreatFmt
open Go.RowKit Go.Proofs

set_option maxRecDepth 100000 in
theorem scIndex_any (s : ByteArray) (c : Int) (w : World) :
    Calls Tryz.prog 165 #[.string s, .int .u8 c] w fun e w' => e = .returned (.int .i64 (Lib.indexByte s.data.toList c.toNat.toUInt8)) ∧ w' = w := by
  go_enter Tryz.func165, Tryz.ntmps165
  go_wp2_with fail
  rw [run_callFunc_extern Tryz.func164 (by kernel_rfl) (by kernel_rfl) (by kernel_rfl) (e := Extern.BytealgIndexByte.indexByte) (by kernel_rfl), Lib.run_indexByteString]
  simp only [Result.andThen]
  rw [Oper.upon_value]
  go_wp2_with fail
  go_ret
  exact ⟨rfl, rfl⟩

set_option maxRecDepth 100000 in
theorem scContains_any (s : ByteArray) (c : Int) (b : Bool) (w : World) (hb : (!(Lib.indexByte s.data.toList c.toNat.toUInt8 == -1)) = b) :
    Calls Tryz.prog 166 #[.string s, .int .u8 c] w fun e w' => e = .returned (.bool b) ∧ w' = w := by
  go_enter Tryz.func166, Tryz.ntmps166
  go_wp2_with fail
  refine (scIndex_any s c w).mono ?_
  rintro e w1 ⟨rfl, rfl⟩
  have HB := hide hb
  clear hb
  go_wp2_with fail
  go_ret
  refine ⟨?_, rfl⟩
  rw [← HB.out]
  rfl

set_option maxRecDepth 100000 in
set_option maxHeartbeats 1000000 in
theorem unqChar_plain (s : ByteArray) (w : World) (h0 : 0 < s.size) (h1 : bt s 0 ≠ 34) (h2 : bt s 0 ≠ 92) (h3 : bt s 0 < 128) :
    Calls Tryz.prog 168 #[.string s, .int .u8 34] w fun e w' => e = .returned (.tuple #[.int .i32 (bt s 0 : Nat), .bool false, .string (s.extract 1 s.size), .nilIface]) ∧ ∃ q, w' = w.drewN q := by
  have hg : (s[0]'h0).toNat = bt s 0 := bt_get s 0 h0
  have g0 : ((s.size : Int) == 0) = false := by simp only [beq_eq_false_iff_ne]; omega
  have g0' : (0 : Int) < (s.size : Int) := by omega
  have he : s.toList.isEmpty = false := full_of_size (n := s.size - 1) (by omega)
  have g1 : ((bt s 0 : Int) == 34) = false := by simp only [beq_eq_false_iff_ne]; omega
  have g2 : ((bt s 0 : Int) == 92) = false := by simp only [beq_eq_false_iff_ne]; omega
  have g3 : ¬ (128 : Int) ≤ (bt s 0 : Int) := by omega
  have g4 : (1 : Int) ≤ (s.size : Int) := by omega
  go_enter Tryz.func168, Tryz.ntmps168
  go_wp2_with fail
  go_quiet (fail)
  go_wp2_with fail
  go_returns
  exact ⟨rfl, ⟨_, rfl⟩⟩

set_option maxRecDepth 100000 in
set_option maxHeartbeats 4000000 in
theorem unqChar_esc (s : ByteArray) (c : Nat) (w : World) (h0 : 1 < s.size) (h1 : bt s 0 = 92) (h2 : bt s 1 = c) (hc : c = 34 ∨ c = 92) :
    Calls Tryz.prog 168 #[.string s, .int .u8 34] w fun e w' => e = .returned (.tuple #[.int .i32 (c : Nat), .bool false, .string (s.extract 2 s.size), .nilIface]) ∧ ∃ q, w' = w.drewN q := by
  have h00 : 0 < s.size := by omega
  have hg : (s[0]'h00).toNat = 92 := by rw [← h1]; exact bt_get s 0 h00
  have hg1 : (s[1]'h0).toNat = c := by rw [← h2]; exact bt_get s 1 h0
  have g0 : ((s.size : Int) == 0) = false := by simp only [beq_eq_false_iff_ne]; omega
  have g0' : (0 : Int) < (s.size : Int) := by omega
  have he : s.toList.isEmpty = false := full_of_size (n := s.size - 1) (by omega)
  have g1 : (1 : Int) < (s.size : Int) := by omega
  have g3 : ¬ (s.size : Int) ≤ 1 := by omega
  have g4 : (2 : Int) ≤ (s.size : Int) := by omega
  clear h1 h2
  rcases hc with rfl | rfl
  all_goals
    go_enter Tryz.func168, Tryz.ntmps168
    go_wp2_with fail
    go_returns
    exact ⟨rfl, ⟨0, rfl⟩⟩
end Go.Proofs.YtifkpibjeamfkaaGreatFmt
