/- Type assertions to pointer types. -/
import Derived.Test.YtifkpibjeamfkaaGreatFmtB0
import Derived.Stop.Asserts
set_option linter.unusedVariables false
namespace Go.Proofs.YtifkpibjeamfkaaGreatFmt
open Go.RowKit Go.Proofs

theorem run_assert_other {P : Program} {a t e : TypeId} {v : Value} (hu : P.underlying a = some (.pointer e)) (hz : (P.info? a).map (·.zero) = some (some (.pointer none))) (ht : t ≠ a) (xT : TypeId) (w : World) :
    (Instr.typeAssert (.iface t v) xT a true).run P w = .ok (.tuple #[.pointer none, .bool false]) w := by
  obtain ⟨j, hj, hz'⟩ := Option.map_eq_some_iff.1 hz
  simp [Instr.typeAssert, run_underlying hu, ht, zeroValue, hj, hz', typeInfo]
theorem run_assert_same {P : Program} {a e : TypeId} {v : Value} (hu : P.underlying a = some (.pointer e)) (xT : TypeId) (w : World) :
    (Instr.typeAssert (.iface a v) xT a true).run P w = .ok (.tuple #[v, .bool true]) w := by
  simp [Instr.typeAssert, run_underlying hu]

@[go_sem] theorem as_line_lp (v : Value) (w : World) : (Instr.typeAssert (.iface 92 v) 131 239 true).run Tryz.prog w = .ok (.tuple #[.pointer none, .bool false]) w := run_assert_other (e := 139) (by kernel_rfl) (by kernel_rfl) (by decide) _ _
@[go_sem] theorem as_line_rp (v : Value) (w : World) : (Instr.typeAssert (.iface 92 v) 131 240 true).run Tryz.prog w = .ok (.tuple #[.pointer none, .bool false]) w := run_assert_other (e := 141) (by kernel_rfl) (by kernel_rfl) (by decide) _ _
@[go_sem] theorem as_line_cb (v : Value) (w : World) : (Instr.typeAssert (.iface 92 v) 131 197 true).run Tryz.prog w = .ok (.tuple #[.pointer none, .bool false]) w := run_assert_other (e := 201) (by kernel_rfl) (by kernel_rfl) (by decide) _ _
@[go_sem] theorem as_line_lb (v : Value) (w : World) : (Instr.typeAssert (.iface 92 v) 131 137 true).run Tryz.prog w = .ok (.tuple #[.pointer none, .bool false]) w := run_assert_other (e := 143) (by kernel_rfl) (by kernel_rfl) (by decide) _ _
@[go_sem] theorem as_file_lp (v : Value) (w : World) : (Instr.typeAssert (.iface 87 v) 131 239 true).run Tryz.prog w = .ok (.tuple #[.pointer none, .bool false]) w := run_assert_other (e := 139) (by kernel_rfl) (by kernel_rfl) (by decide) _ _
@[go_sem] theorem as_file_rp (v : Value) (w : World) : (Instr.typeAssert (.iface 87 v) 131 240 true).run Tryz.prog w = .ok (.tuple #[.pointer none, .bool false]) w := run_assert_other (e := 141) (by kernel_rfl) (by kernel_rfl) (by decide) _ _
@[go_sem] theorem as_file_cb (v : Value) (w : World) : (Instr.typeAssert (.iface 87 v) 131 197 true).run Tryz.prog w = .ok (.tuple #[.pointer none, .bool false]) w := run_assert_other (e := 201) (by kernel_rfl) (by kernel_rfl) (by decide) _ _
@[go_sem] theorem as_file_lb (v : Value) (w : World) : (Instr.typeAssert (.iface 87 v) 131 137 true).run Tryz.prog w = .ok (.tuple #[.pointer none, .bool false]) w := run_assert_other (e := 143) (by kernel_rfl) (by kernel_rfl) (by decide) _ _
@[go_sem] theorem as_file_line (v : Value) (w : World) : (Instr.typeAssert (.iface 87 v) 131 92 true).run Tryz.prog w = .ok (.tuple #[.pointer none, .bool false]) w := run_assert_other (e := 136) (by kernel_rfl) (by kernel_rfl) (by decide) _ _
@[go_sem] theorem as_line_file (v : Value) (w : World) : (Instr.typeAssert (.iface 92 v) 131 87 true).run Tryz.prog w = .ok (.tuple #[.pointer none, .bool false]) w := run_assert_other (e := 129) (by kernel_rfl) (by kernel_rfl) (by decide) _ _
@[go_sem] theorem as_line_line (v : Value) (w : World) : (Instr.typeAssert (.iface 92 v) 131 92 true).run Tryz.prog w = .ok (.tuple #[v, .bool true]) w := run_assert_same (e := 136) (by kernel_rfl) _ _
@[go_sem] theorem as_file_file (v : Value) (w : World) : (Instr.typeAssert (.iface 87 v) 131 87 true).run Tryz.prog w = .ok (.tuple #[v, .bool true]) w := run_assert_same (e := 129) (by kernel_rfl) _ _
end Go.Proofs.YtifkpibjeamfkaaGreatFmt
