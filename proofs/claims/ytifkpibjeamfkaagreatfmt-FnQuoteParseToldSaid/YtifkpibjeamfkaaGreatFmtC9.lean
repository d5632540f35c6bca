/- parseVersion at a version that does not begin with v. -/
import Derived.Test.YtifkpibjeamfkaaGreatFmtC8
set_option linter.unusedVariables false
namespace Go.Proofs.YtifkpibjeamfkaaGreatFmt
open Go.RowKit Go.Proofs

/-- A plain word: printed signs without quotes, no need of quotes. -/
structure Plain (s : ByteArray) : Prop where
  chars : ∀ k, k < s.size → 32 ≤ bt s k ∧ bt s k ≤ 126 ∧ bt s k ≠ 34 ∧ bt s k ≠ 39 ∧ bt s k ≠ 96
  first : Lib.hasPrefix s.data.toList [34] = false
  len : s.size ≤ 1000000
  mq : mqB s = false

set_option maxRecDepth 100000 in
set_option maxHeartbeats 1000000 in
theorem parseVersion_bad (R i : Nat) (cur : Array Value) (verb path s : ByteArray) (n : Nat) (w : World) (hR : Blk w R 9 cur) (hi : cur[i]? = some (.string s)) (hp : Plain s) (hn : s.size = n + 1) (hv : bt s 0 ≠ 118) (hpr : PrTab w) (hP : 0 < w.heap.size) :
    Calls Tryz.prog 74 #[.string verb, .string path, .pointer (some ⟨R, i, none⟩), .nilFunc] w fun e w' => (∃ t v, e = .returned (.tuple #[.string ⟨#[]⟩, .iface t v])) ∧ Below w.heap.size w w' := by
  have hq : ∀ (w : World), (binOp .neq 75 .nilFunc .nilFunc).run Tryz.prog w = .ok (.bool false) w := fun w => by kernel_rfl
  go_enter Tryz.func74, Tryz.ntmps74
  go_wp2_with fail
  refine (parseString_plain R i cur s w hR hi hp.chars hp.first hp.len hp.mq hpr hP).mono ?_
  rintro e w1 ⟨rfl, hb⟩
  have HB := hide hb
  clear hb
  go_wp2_with fail
  refine (canonicalVersion_bad s n w1 hn hv).mono ?_
  rintro e w2 ⟨rfl, hb2⟩
  have HB2 := hide (HB.out.trans (hb2.mono HB.out.size))
  clear hb2
  go_wp2_with fail
  refine (errors_new _ _).mono ?_
  rintro e w3 ⟨rfl, rfl⟩
  go_wp2_with fail
  go_returns
  exact ⟨⟨_, _, rfl⟩, ((HB2.out.alloc HB2.out.size _).alloc (by have := HB2.out.size; simp; omega) _).alloc (by have := HB2.out.size; simp; omega) _⟩
end Go.Proofs.YtifkpibjeamfkaaGreatFmt
