/- The lexer's small functions, one contract each. -/
import Derived.Test.YtifkpibjeamfkaaGreatFmtB0
namespace Go.Proofs.YtifkpibjeamfkaaGreatFmt
open Go.RowKit Go.Proofs

set_option maxHeartbeats 400000 in
/-- utf8.DecodeRune of a slice that begins with an ASCII byte. -/
theorem decodeRune_ascii (b o : Nat) (n c : Nat) (k : Int) (w : World) (hn : 0 < n) (hc : w.cell? ⟨b, o, none⟩ = some (.int .u8 k)) (hk : k < 128) (hk0 : 0 ≤ k) :
    Calls Tryz.prog 125 #[.slice (some ⟨b, o, none⟩) n c] w fun e w' => e = .returned (.tuple #[.int .i32 k, .int .i64 1]) ∧ w = w' := by
  go_enter Tryz.func125, Tryz.ntmps125
  go_wp2
  refine wp_loop_rounds 1 ?_
  rw [rounds_succ]
  go_wp2
  go_ret2
  exact ⟨rfl, rfl⟩

theorem eof_any (B : Nat) (a : Option Addr) (n c : Nat) (w : World) (h2 : w.cell? ⟨B, 2, none⟩ = some (.slice a n c)) :
    Calls Tryz.prog 84 #[.pointer (some ⟨B, 0, none⟩)] w fun e w' => e = .returned (.bool ((n : Int) == 0)) ∧ w = w' := by
  go_enter Tryz.func84, Tryz.ntmps84
  go_wp2
  go_ret
  exact ⟨rfl, rfl⟩

theorem peek_any (B : Nat) (k : Int) (w : World) (h2 : w.cell? ⟨B, 4, none⟩ = some (.int .i64 k)) :
    Calls Tryz.prog 94 #[.pointer (some ⟨B, 0, none⟩)] w fun e w' => e = .returned (.int .i64 k) ∧ w = w' := by
  go_enter Tryz.func94, Tryz.ntmps94
  go_wp2
  go_ret
  exact ⟨rfl, rfl⟩

theorem peekRune_some (B b o n c : Nat) (k : Int) (w : World) (h2 : w.cell? ⟨B, 2, none⟩ = some (.slice (some ⟨b, o, none⟩) n c)) (hn : 0 < n) (hc : w.cell? ⟨b, o, none⟩ = some (.int .u8 k)) (hk : k < 128) (hk0 : 0 ≤ k) :
    Calls Tryz.prog 85 #[.pointer (some ⟨B, 0, none⟩)] w fun e w' => e = .returned (.int .i64 k) ∧ w = w' := by
  go_enter Tryz.func85, Tryz.ntmps85
  go_wp2_with (go_at_call 125; refine (decodeRune_ascii _ _ _ _ _ _ hn hc hk hk0).mono ?_; rintro e w' ⟨rfl, rfl⟩)
  go_ret
  exact ⟨rfl, rfl⟩

theorem peekRune_none (B : Nat) (a : Option Addr) (c : Nat) (w : World) (h2 : w.cell? ⟨B, 2, none⟩ = some (.slice a 0 c)) :
    Calls Tryz.prog 85 #[.pointer (some ⟨B, 0, none⟩)] w fun e w' => e = .returned (.int .i64 0) ∧ w = w' := by
  go_enter Tryz.func85, Tryz.ntmps85
  go_wp2
  go_ret
  exact ⟨rfl, rfl⟩
end Go.Proofs.YtifkpibjeamfkaaGreatFmt
