/- Small contracts of rule.go: comments that are not there; errors. -/
import Derived.Test.YtifkpibjeamfkaaGreatFmtP7
import Derived.Lib.SliceRun
set_option linter.unusedVariables false
namespace Go.Proofs.YtifkpibjeamfkaaGreatFmt
open Go.RowKit Go.Proofs

set_option maxRecDepth 100000 in
theorem join_nil (w : World) (sep : ByteArray) : Calls Tryz.prog 121 #[.slice none 0 0, .string sep] w fun e w' => e = .returned (.string ⟨#[]⟩) ∧ w = w' := by
  go_enter Tryz.func121, Tryz.ntmps121
  go_wp2
  go_ret
  exact ⟨rfl, rfl⟩

set_option maxRecDepth 100000 in
theorem deprecated_empty (w : World) : Calls Tryz.prog 105 #[.string ⟨#[]⟩] w fun e w' => e = .returned (.slice none 0 0) ∧ w = w' := by
  go_enter Tryz.func105, Tryz.ntmps105
  go_wp2_with fail
  refine wp_loop_rounds 1 ?_
  rw [rounds_succ]
  go_wp2_with fail
  go_ret
  exact ⟨rfl, rfl⟩

set_option maxRecDepth 100000 in
set_option maxHeartbeats 1000000 in
theorem directive_none (L : Nat) (w : World) (h0 : w.cell? ⟨L, 0, none⟩ = some (.slice none 0 0)) (h1 : w.cell? ⟨L, 1, none⟩ = some (.slice none 0 0)) :
    Calls Tryz.prog 79 #[.pointer none, .pointer (some ⟨L, 0, none⟩)] w fun e w' => e = .returned (.string ⟨#[]⟩) ∧ Below w.heap.size w w' := by
  have hlt : L < w.heap.size := World.block_lt_of_cell? w _ h0
  have hne : w.heap.size ≠ L := by omega
  go_enter Tryz.func79, Tryz.ntmps79
  go_wp2_with fail
  refine (comment_any _ _).mono ?_
  rintro e w1 ⟨rfl, rfl⟩
  go_wp2_with fail
  go_region_held3 (fun w' => w'.cell? ⟨L, 0, none⟩ = some (.slice none 0 0) ∧ w'.cell? ⟨L, 1, none⟩ = some (.slice none 0 0)) (go_keep) (fail)
  all_goals go_wp2_with fail
  have hB := Blk.new w 124 #[Value.slice none 0 0, Value.slice none 0 0]
  have g0 : (w.alloc (Obj.cells #[Value.slice none 0 0, Value.slice none 0 0] 124)).cell? ⟨w.heap.size, 0, none⟩ = some (.slice none 0 0) := hB.cell 0 rfl
  have g1 : (w.alloc (Obj.cells #[Value.slice none 0 0, Value.slice none 0 0] 124)).cell? ⟨w.heap.size, 1, none⟩ = some (.slice none 0 0) := hB.cell 1 rfl
  have hb : Below w.heap.size w (w.alloc (Obj.cells #[Value.slice none 0 0, Value.slice none 0 0] 124)).drew := ((Below.refl _ w).alloc (Nat.le_refl _) _).drew
  have HB := hide hb
  clear hb hB
  refine wp_loop_rounds 3 ?_
  rw [rounds_succ]
  go_wp2_with fail
  refine wp_loop_rounds 1 ?_
  rw [rounds_succ]
  go_wp2_with fail
  rw [rounds_succ]
  go_wp2_with fail
  refine wp_loop_rounds 1 ?_
  rw [rounds_succ]
  go_wp2_with fail
  rw [rounds_succ]
  go_wp2_with fail
  refine (join_nil _ _).mono ?_
  rintro e w1 ⟨rfl, rfl⟩
  go_wp2_with fail
  go_ret
  exact ⟨rfl, HB.out⟩

set_option maxRecDepth 100000 in
theorem deprecation_none (L : Nat) (w : World) (h0 : w.cell? ⟨L, 0, none⟩ = some (.slice none 0 0)) (h1 : w.cell? ⟨L, 1, none⟩ = some (.slice none 0 0)) :
    Calls Tryz.prog 70 #[.pointer none, .pointer (some ⟨L, 0, none⟩)] w fun e w' => e = .returned (.string ⟨#[]⟩) ∧ Below w.heap.size w w' := by
  go_enter Tryz.func70, Tryz.ntmps70
  have hq : ∀ (w : World) (a : Option Addr) (n c n' c' : Nat), (binOp .eql 26 (.slice a n c) (.slice none n' c')).run Tryz.prog w = .ok (.bool a.isNone) w := fun w a n c n' c' => Lib.run_eql_slice_nil w _ _ a n c n' c' Tryz.und_strs
  go_wp2_with fail
  refine (directive_none L w h0 h1).mono ?_
  rintro e w1 ⟨rfl, hb⟩
  have HB := hide hb
  clear hb
  go_wp2_with fail
  refine (deprecated_empty _).mono ?_
  rintro e w2 ⟨rfl, rfl⟩
  go_wp2_with fail
  go_ret
  exact ⟨rfl, HB.out⟩

theorem indirect_none (L : Nat) (w : World) (h1 : w.cell? ⟨L, 1, none⟩ = some (.slice none 0 0)) :
    Calls Tryz.prog 77 #[.pointer (some ⟨L, 0, none⟩)] w fun e w' => e = .returned (.bool false) ∧ w' = w := by
  go_enter Tryz.func77, Tryz.ntmps77
  go_wp2
  go_ret
  exact ⟨rfl, rfl⟩

theorem errors_new (s : ByteArray) (w : World) :
    Calls Tryz.prog 53 #[.string s] w fun e w' => e = .returned (.iface 180 (.pointer (some ⟨w.heap.size, 0, none⟩))) ∧ w' = w.alloc (Obj.cells #[Value.string s] 182) := by
  go_enter Tryz.func53, Tryz.ntmps53
  go_wp2
  go_ret
  exact ⟨rfl, rfl⟩
end Go.Proofs.YtifkpibjeamfkaaGreatFmt
