/- unicode.IsSpace, unicode.IsPrint, isIdent at ASCII. -/
import Derived.Test.YtifkpibjeamfkaaGreatFmtL5
namespace Go.Proofs.YtifkpibjeamfkaaGreatFmt
open Go.RowKit Go.Proofs

theorem ret_bool {a b : Bool} (h : a = b) : Ending.returned (.bool a) = .returned (.bool b) := by rw [h]
theorem ret_int {k : IntKind} {a b : Int} (h : a = b) : Ending.returned (.int k a) = .returned (.int k b) := by rw [h]

/-- unicode.properties' cells, as far as IsPrint looks. -/
def PrTab (w : World) : Prop := ∀ c, c < 128 → ∃ v : Int, w.cell? ⟨0, c, none⟩ = some (.int .u8 v) ∧ 0 ≤ v ∧ v < 256 ∧ (bits BinOp.and IntKind.u8 v 128 != 0) = decide (32 ≤ c ∧ c ≤ 126)

set_option maxRecDepth 100000 in
theorem isPrint_ascii (c : Nat) (w : World) (hc : c < 128) (ht : PrTab w) :
    Calls Tryz.prog 54 #[.int .i32 (c : Int)] w fun e w' => e = .returned (.bool (decide (32 ≤ c ∧ c ≤ 126))) ∧ w = w' := by
  obtain ⟨v, hv, h0, h1, hb⟩ := ht c hc
  have hc' : (c : Int) < 128 := by omega
  have H := hide hb
  clear hb ht
  go_enter Tryz.func54, Tryz.ntmps54
  go_wp2
  go_ret
  exact ⟨ret_bool H.out, rfl⟩

def spB (c : Nat) : Bool := decide (c = 32 ∨ (9 ≤ c ∧ c ≤ 13))
set_option maxRecDepth 100000 in
set_option maxHeartbeats 1000000 in
theorem isSpace_ascii (c : Nat) (w : World) (hc : c < 128) :
    Calls Tryz.prog 130 #[.int .i32 (c : Int)] w fun e w' => e = .returned (.bool (spB c)) ∧ w = w' := by
  have hc' : (c : Int) < 128 := by omega
  go_enter Tryz.func130, Tryz.ntmps130
  go_wp2
  all_goals
    go_ret
    refine ⟨ret_bool ?_, rfl⟩
    unfold spB
    simp only [beq_iff_eq, beq_eq_false_iff_ne] at *
    simp
    omega

/-- Is this byte one of an identifier? -/
def idB (c : Nat) : Bool := decide (33 ≤ c ∧ c ≤ 126 ∧ c ≠ 40 ∧ c ≠ 41 ∧ c ≠ 91 ∧ c ≠ 93 ∧ c ≠ 123 ∧ c ≠ 125 ∧ c ≠ 44)
set_option maxRecDepth 100000 in
set_option maxHeartbeats 1000000 in
theorem isIdent_ascii (c : Nat) (w : World) (hc : c < 128) (ht : PrTab w) :
    Calls Tryz.prog 93 #[.int .i64 (c : Int)] w fun e w' => e = .returned (.bool (idB c)) ∧ w = w' := by
  have hc' : (c : Int) < 128 := by omega
  have H := hide ht
  clear ht
  cases hsp : spB c
  all_goals
    go_enter Tryz.func93, Tryz.ntmps93
    go_wp2_with (first | (go_at_call 130; refine (isSpace_ascii _ _ hc).mono ?_; rintro e w' ⟨rfl, rfl⟩; rw [hsp]) | (go_at_call 54; refine (isPrint_ascii _ _ hc H.out).mono ?_; rintro e w' ⟨rfl, rfl⟩))
    all_goals
      go_ret
      refine ⟨ret_bool ?_, rfl⟩
      unfold spB at hsp
      unfold idB
      simp only [beq_iff_eq, beq_eq_false_iff_ne, decide_eq_true_eq, decide_eq_false_iff_not] at *
      first | (simp; omega) | (rw [← Bool.decide_and, decide_eq_decide]; omega)
end Go.Proofs.YtifkpibjeamfkaaGreatFmt
