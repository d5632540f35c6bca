/- SplitPathVersion, modulePathMajor at a path that ends with a small letter. -/
import Derived.Test.YtifkpibjeamfkaaGreatFmtC6
set_option linter.unusedVariables false
namespace Go.Proofs.YtifkpibjeamfkaaGreatFmt
open Go.RowKit Go.Proofs

def gopkg : ByteArray := ⟨#[103, 111, 112, 107, 103, 46, 105, 110, 47]⟩

set_option maxRecDepth 100000 in
set_option maxHeartbeats 1000000 in
theorem splitPath_plain (s : ByteArray) (n : Nat) (w : World) (hn : s.size = n + 1) (hl : s.size ≤ 1000000) (hc : 97 ≤ bt s n ∧ bt s n ≤ 122) (hf : Lib.hasPrefix s.data.toList gopkg.data.toList = false) :
    Calls Tryz.prog 109 #[.string s] w fun e w' => e = .returned (.tuple #[.string s, .string ⟨#[]⟩, .bool true]) ∧ w' = w := by
  have HF := hide hf
  clear hf
  have hwr : IntKind.i64.wrap (n : Int) = (n : Int) := IntWalk.i64_in _ (by omega)
  have hget : (s[n]'(by omega)).toNat = bt s n := bt_get s n (by omega)
  have h48 : (48 : Int) ≤ (bt s n : Int) := by omega
  have h57 : ¬ (bt s n : Int) ≤ 57 := by omega
  have f46 : ((bt s n : Int) == 46) = false := by simp only [beq_eq_false_iff_ne]; omega
  go_enter Tryz.func109, Tryz.ntmps109
  go_wp2_with fail
  refine (hasPrefix_any s _ w).mono ?_
  rintro e w1 ⟨rfl, rfl⟩
  rw [show Lib.hasPrefix s.data.toList (⟨#[103, 111, 112, 107, 103, 46, 105, 110, 47]⟩ : ByteArray).data.toList = false from HF.out]
  go_wp2_with fail
  refine wp_loop_rounds 1 ?_
  rw [rounds_succ]
  go_wp2_with fail
  all_goals go_returns
  all_goals exact ⟨rfl, rfl⟩

theorem pathMajor_plain (s : ByteArray) (n : Nat) (w : World) (hn : s.size = n + 1) (hl : s.size ≤ 1000000) (hc : 97 ≤ bt s n ∧ bt s n ≤ 122) (hf : Lib.hasPrefix s.data.toList gopkg.data.toList = false) :
    Calls Tryz.prog 75 #[.string s] w fun e w' => e = .returned (.tuple #[.string ⟨#[]⟩, .nilIface]) ∧ w' = w := by
  have HF := hide hf
  clear hf
  go_enter Tryz.func75, Tryz.ntmps75
  go_wp2_with fail
  refine (splitPath_plain s n w hn hl hc HF.out).mono ?_
  rintro e w1 ⟨rfl, rfl⟩
  go_wp2_with fail
  go_returns
  exact ⟨rfl, rfl⟩
end Go.Proofs.YtifkpibjeamfkaaGreatFmt
