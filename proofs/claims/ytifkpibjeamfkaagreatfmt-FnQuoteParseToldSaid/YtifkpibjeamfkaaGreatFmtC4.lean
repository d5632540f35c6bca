/- zzContains, spec.Stands: a text stands in another one. -/
import Derived.Test.YtifkpibjeamfkaaGreatFmtC3
import Derived.IntWalk
set_option linter.unusedVariables false
namespace Go.Proofs.YtifkpibjeamfkaaGreatFmt
open Go.RowKit Go.Proofs

/-- Does a text stand in another one from a place on? -/
def atB (s p : ByteArray) (k : Nat) : Bool := decide (k + p.size ≤ s.size) && ((s.extract k (k + p.size)).toList == p.toList)
def standsB (s p : ByteArray) : Bool := (List.range (s.size + 1)).any (atB s p)
theorem stands_no {s p : ByteArray} {k : Nat} (h : ∀ j, j < k → atB s p j = false) (hk : ¬ k + p.size ≤ s.size) : standsB s p = false := by
  unfold standsB
  rw [List.any_eq_false]
  intro j _
  rcases Nat.lt_or_ge j k with hj | hj
  · simp [h j hj]
  · unfold atB
    simp; omega
theorem stands_yes {s p : ByteArray} {k : Nat} (h : atB s p k = true) (hk : k + p.size ≤ s.size) : standsB s p = true := by
  unfold standsB
  rw [List.any_eq_true]
  exact ⟨k, by simp; omega, h⟩

set_option maxHeartbeats 1000000 in
theorem zzIndex_any (s p : ByteArray) (w : World) (hs : s.size ≤ 1000000) (hp : p.size ≤ 1000000) :
    Calls Tryz.prog 82 #[.string s, .string p] w fun e w' => (∃ k : Int, e = .returned (.int .i64 k) ∧ decide (0 ≤ k) = standsB s p) ∧ w' = w := by
  go_enter Tryz.func82, Tryz.ntmps82
  go_wp2_with fail
  go_loopg [4, 5] (s.size + 1) (fun k v4 v5 wr => wr = w ∧ ∃ j : Nat, j + k = s.size + 1 ∧ v5 = .int .i64 (j : Int) ∧ Hid (∀ i, i < j → atB s p i = false))
  case atStart => exact ⟨rfl, 0, by omega, rfl, hide (fun i h => by omega)⟩
  case round =>
    obtain ⟨rfl, j, hj, rfl, HN⟩ := hrel
    have hwr : IntKind.i64.wrap ((j : Int) + (p.size : Int)) = (j : Int) + (p.size : Int) := Go.IntWalk.i64_in _ (by omega)
    rcases Nat.lt_or_ge s.size (j + p.size) with hlt | hge
    · have hno : ¬ ((j : Int) + (p.size : Int) ≤ (s.size : Int)) := by omega
      go_wp2_with fail
      go_ret
      exact ⟨⟨-1, rfl, by rw [stands_no HN.out (by omega)]; rfl⟩, rfl⟩
    · have hyes : (j : Int) + (p.size : Int) ≤ (s.size : Int) := by omega
      have h0 : (0 : Int) ≤ (j : Int) := by omega
      have h1 : (j : Int) ≤ (j : Int) + (p.size : Int) := by omega
      go_wp2_with fail
      · rename_i h
        go_ret
        have ha : atB s p j = true := by unfold atB; rw [h]; simp; omega
        exact ⟨⟨j, rfl, by rw [stands_yes ha (by omega)]; simp⟩, rfl⟩
      · rename_i h
        go_roundg (s.size + 1 - (j + 1))
        case measure => omega
        case rel =>
          refine ⟨rfl, j + 1, by omega, by simp, hide (fun i hi => ?_)⟩
          rcases Nat.lt_or_ge i j with h2 | h2
          · exact HN.out i h2
          · obtain rfl : i = j := by omega
            unfold atB
            rw [h]
            simp

theorem zzContains_any (s p : ByteArray) (w : World) (hs : s.size ≤ 1000000) (hp : p.size ≤ 1000000) :
    Calls Tryz.prog 55 #[.string s, .string p] w fun e w' => e = .returned (.bool (standsB s p)) ∧ w' = w := by
  go_enter Tryz.func55, Tryz.ntmps55
  go_wp2_with fail
  refine (zzIndex_any s p w hs hp).mono ?_
  rintro e w1 ⟨⟨k, rfl, hk⟩, rfl⟩
  have HK := hide hk
  clear hk
  go_wp2_with fail
  go_ret
  refine ⟨?_, rfl⟩
  rw [← HK.out]
  rfl

set_option maxHeartbeats 1000000 in
theorem stands_any (s p : ByteArray) (w : World) (hs : s.size ≤ 1000000) (hp : p.size ≤ 1000000) :
    Calls Tryz.prog 17 #[.string s, .string p] w fun e w' => e = .returned (.bool (standsB s p)) ∧ w' = w := by
  go_enter Tryz.func17, Tryz.ntmps17
  go_wp2_with fail
  go_loopg [4, 5] (s.size + 1) (fun k v4 v5 wr => wr = w ∧ ∃ j : Nat, j + k = s.size + 1 ∧ v5 = .int .i64 (j : Int) ∧ Hid (∀ i, i < j → atB s p i = false))
  case atStart => exact ⟨rfl, 0, by omega, rfl, hide (fun i h => by omega)⟩
  case round =>
    obtain ⟨rfl, j, hj, rfl, HN⟩ := hrel
    have hwr : IntKind.i64.wrap ((j : Int) + (p.size : Int)) = (j : Int) + (p.size : Int) := Go.IntWalk.i64_in _ (by omega)
    rcases Nat.lt_or_ge s.size (j + p.size) with hlt | hge
    · have hno : ¬ ((j : Int) + (p.size : Int) ≤ (s.size : Int)) := by omega
      have HS := hide (stands_no HN.out (k := j) (by omega))
      go_wp2_with fail
      go_ret
      exact ⟨by rw [HS.out]; rfl, rfl⟩
    · have hyes : (j : Int) + (p.size : Int) ≤ (s.size : Int) := by omega
      have h0 : (0 : Int) ≤ (j : Int) := by omega
      have h1 : (j : Int) ≤ (j : Int) + (p.size : Int) := by omega
      go_wp2_with fail
      · rename_i h
        go_ret
        have ha : atB s p j = true := by unfold atB; rw [h]; simp; omega
        exact ⟨by rw [stands_yes ha (by omega)]; rfl, rfl⟩
      · rename_i h
        go_roundg (s.size + 1 - (j + 1))
        case measure => omega
        case rel =>
          refine ⟨rfl, j + 1, by omega, by simp, hide (fun i hi => ?_)⟩
          rcases Nat.lt_or_ge i j with h2 | h2
          · exact HN.out i h2
          · obtain rfl : i = j := by omega
            unfold atB
            rw [h]
            simp
end Go.Proofs.YtifkpibjeamfkaaGreatFmt
