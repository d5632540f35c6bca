/- semver.parse, Canonical, Build at a text that does not begin with v. -/
import Derived.Test.YtifkpibjeamfkaaGreatFmtC7
set_option linter.unusedVariables false
namespace Go.Proofs.YtifkpibjeamfkaaGreatFmt
open Go.RowKit Go.Proofs

def parsedZero : Value := .agg #[.string ⟨#[]⟩, .string ⟨#[]⟩, .string ⟨#[]⟩, .string ⟨#[]⟩, .string ⟨#[]⟩, .string ⟨#[]⟩]

set_option maxRecDepth 100000 in
set_option maxHeartbeats 1000000 in
theorem semver_bad (s : ByteArray) (n : Nat) (w : World) (hn : s.size = n + 1) (hv : bt s 0 ≠ 118) :
    Calls Tryz.prog 143 #[.string s] w fun e w' => e = .returned (.tuple #[parsedZero, .bool false]) ∧ Below w.heap.size w w' := by
  have hget : (s[0]'(by omega)).toNat = bt s 0 := bt_get s 0 (by omega)
  have f : ((bt s 0 : Int) != 118) = true := by simp only [bne_iff_ne]; omega
  have h0 : (0 : Int) < (n : Int) + 1 := by omega
  have he : s.toList.isEmpty = false := by
    rw [Lib.toList_data]
    rcases s with ⟨⟨l⟩⟩
    cases l with
    | nil => simp [ByteArray.size] at hn
    | cons a l => rfl
  go_enter Tryz.func143, Tryz.ntmps143
  go_wp2_with fail
  refine bodyPost_ret (v := .tuple #[parsedZero, .bool false]) (by simp [results, Tryz.results143, go_sem, parsedZero]) rfl ⟨rfl, (Below.refl _ w).alloc (Nat.le_refl _) _⟩

set_option maxRecDepth 100000 in
theorem canonical_bad (s : ByteArray) (n : Nat) (w : World) (hn : s.size = n + 1) (hv : bt s 0 ≠ 118) :
    Calls Tryz.prog 139 #[.string s] w fun e w' => e = .returned (.string ⟨#[]⟩) ∧ Below w.heap.size w w' := by
  go_enter Tryz.func139, Tryz.ntmps139
  go_wp2_with fail
  refine (semver_bad s n w hn hv).mono ?_
  rintro e w1 ⟨rfl, hb⟩
  have HB := hide (hb.alloc hb.size (Obj.cells #[.string ⟨#[]⟩, .string ⟨#[]⟩, .string ⟨#[]⟩, .string ⟨#[]⟩, .string ⟨#[]⟩, .string ⟨#[]⟩] 245))
  clear hb
  unfold parsedZero
  go_wp2_with fail
  go_ret
  exact ⟨rfl, HB.out⟩

set_option maxRecDepth 100000 in
theorem build_bad (s : ByteArray) (n : Nat) (w : World) (hn : s.size = n + 1) (hv : bt s 0 ≠ 118) :
    Calls Tryz.prog 113 #[.string s] w fun e w' => e = .returned (.string ⟨#[]⟩) ∧ Below w.heap.size w w' := by
  go_enter Tryz.func113, Tryz.ntmps113
  go_wp2_with fail
  refine (semver_bad s n w hn hv).mono ?_
  rintro e w1 ⟨rfl, hb⟩
  have HB := hide (hb.alloc hb.size (Obj.cells #[.string ⟨#[]⟩, .string ⟨#[]⟩, .string ⟨#[]⟩, .string ⟨#[]⟩, .string ⟨#[]⟩, .string ⟨#[]⟩] 245))
  clear hb
  unfold parsedZero
  go_wp2_with fail
  go_ret
  exact ⟨rfl, HB.out⟩

set_option maxRecDepth 100000 in
theorem canonicalVersion_bad (s : ByteArray) (n : Nat) (w : World) (hn : s.size = n + 1) (hv : bt s 0 ≠ 118) :
    Calls Tryz.prog 108 #[.string s] w fun e w' => e = .returned (.string ⟨#[]⟩) ∧ Below w.heap.size w w' := by
  go_enter Tryz.func108, Tryz.ntmps108
  go_wp2_with fail
  refine (canonical_bad s n w hn hv).mono ?_
  rintro e w1 ⟨rfl, hb⟩
  have HB := hide hb
  clear hb
  go_wp2_with fail
  refine (build_bad s n w1 hn hv).mono ?_
  rintro e w2 ⟨rfl, hb2⟩
  have HB2 := hide (HB.out.trans (hb2.mono HB.out.size))
  clear hb2
  go_wp2_with fail
  go_ret
  exact ⟨rfl, HB2.out⟩
end Go.Proofs.YtifkpibjeamfkaaGreatFmt
