/- strings.HasPrefix, HasSuffix, TrimPrefix, TrimSuffix: contracts over this program (after the shelf's worked text). -/
import Derived.Test.YtifkpibjeamfkaaGreatFmtB0
import Derived.Lib.Walk
import Derived.Lib.Strings
import Derived.Lib.Slices
import Derived.Laws.Strings3
namespace Go.Proofs.YtifkpibjeamfkaaGreatFmt
open Go.RowKit Go.Proofs

/-- A string out of a list of bytes. -/
def mkS (l : List UInt8) : ByteArray := ⟨l.toArray⟩
theorem mkS_list (l : List UInt8) : (mkS l).data.toList = l := rfl
theorem mkS_size (l : List UInt8) : (mkS l).size = l.length := by simp [mkS, ByteArray.size]
theorem mkS_of (s : ByteArray) : mkS s.data.toList = s := by cases s; simp [mkS]
theorem mkS_inj {a b : List UInt8} (h : mkS a = mkS b) : a = b := by have := congrArg (fun s : ByteArray => s.data.toList) h; simpa [mkS] using this

set_option maxHeartbeats 1000000 in
theorem slHasPrefix (s p : ByteArray) (w : World) :
    Calls Tryz.prog 137 #[.string s, .string p] w fun e w' => e = .returned (.bool (Lib.hasPrefix s.data.toList p.data.toList)) ∧ w' = w := by
  rw [← Lib.hasPrefix_of_take, ← Lib.size_eq, ← Lib.size_eq]
  go_enter Tryz.func137, Tryz.ntmps137
  go_wp2
  · rename_i h
    go_ret
    refine ⟨?_, rfl⟩
    show Ending.returned (Value.bool ((s.extract 0 p.size).toList == p.toList)) = _
    rw [Lib.extract_toList, Lib.toList_data]
    simp [h]
  · rename_i h
    go_ret
    refine ⟨?_, rfl⟩
    show Ending.returned (Value.bool false) = _
    simp [h]

theorem hasPrefix_any (s p : ByteArray) (w : World) :
    Calls Tryz.prog 104 #[.string s, .string p] w fun e w' => e = .returned (.bool (Lib.hasPrefix s.data.toList p.data.toList)) ∧ w = w' := by
  go_enter Tryz.func104, Tryz.ntmps104
  go_wp2_with (go_at_call 137; refine (slHasPrefix _ _ _).mono ?_; rintro e w' ⟨rfl, hw⟩; rw [hw])
  go_ret
  exact ⟨rfl, rfl⟩

set_option maxHeartbeats 1000000 in
theorem slHasSuffix (s p : ByteArray) (w : World) (hs : s.size ≤ 9223372036854775807) :
    Calls Tryz.prog 141 #[.string s, .string p] w fun e w' => e = .returned (.bool (Lib.hasSuffix s.data.toList p.data.toList)) ∧ w' = w := by
  rw [← Lib.hasSuffix_raw]
  have hlo : p.size ≤ s.size → ((s.size : Int) - (p.size : Int) + 9223372036854775808) % 18446744073709551616 - 9223372036854775808 = ((s.size - p.size : Nat) : Int) := fun _ => by omega
  go_enter Tryz.func141, Tryz.ntmps141
  go_wp2
  · have h : p.size ≤ s.size := by assumption
    go_ret
    refine ⟨?_, rfl⟩
    show Ending.returned (Value.bool ((s.extract (s.size - p.size) s.size).toList == p.toList)) = _
    simp [h]
  · have h : ¬ p.size ≤ s.size := by assumption
    go_ret
    refine ⟨?_, rfl⟩
    show Ending.returned (Value.bool false) = _
    simp [h]

theorem hasSuffix_any (s p : ByteArray) (w : World) (hs : s.size ≤ 9223372036854775807) :
    Calls Tryz.prog 110 #[.string s, .string p] w fun e w' => e = .returned (.bool (Lib.hasSuffix s.data.toList p.data.toList)) ∧ w = w' := by
  go_enter Tryz.func110, Tryz.ntmps110
  go_wp2_with (go_at_call 141; refine (slHasSuffix _ _ _ hs).mono ?_; rintro e w' ⟨rfl, hw⟩; rw [hw])
  go_ret
  exact ⟨rfl, rfl⟩

set_option maxHeartbeats 1000000 in
theorem slTrimPrefix (s p : ByteArray) (w : World) :
    Calls Tryz.prog 135 #[.string s, .string p] w fun e w' => e = .returned (.string (mkS (Lib.trimPrefix s.data.toList p.data.toList))) ∧ w' = w := by
  by_cases h1 : p.size ≤ s.size
  · cases h2 : ((s.extract 0 p.size).toList == p.toList)
    · have hh : Lib.hasPrefix s.data.toList p.data.toList = false := by rw [← Lib.hasPrefix_raw, h2]; simp
      go_enter Tryz.func135, Tryz.ntmps135
      go_wp2_with (go_at_call 137; refine (slHasPrefix _ _ _ ).mono ?_; rintro e w' ⟨rfl, hw⟩; rw [hw, hh])
      go_ret
      refine ⟨?_, rfl⟩
      unfold mkS
      rw [Lib.trimPrefix_miss s p (by rw [h2]; simp)]
      rfl
    · have hh : Lib.hasPrefix s.data.toList p.data.toList = true := by rw [← Lib.hasPrefix_raw, h2]; simp [h1]
      go_enter Tryz.func135, Tryz.ntmps135
      go_wp2_with (go_at_call 137; refine (slHasPrefix _ _ _ ).mono ?_; rintro e w' ⟨rfl, hw⟩; rw [hw, hh])
      go_ret
      refine ⟨?_, rfl⟩
      unfold mkS
      rw [Lib.trimPrefix_hit s p h1 h2]
      rfl
  · have hh : Lib.hasPrefix s.data.toList p.data.toList = false := by rw [← Lib.hasPrefix_raw]; simp [h1]
    go_enter Tryz.func135, Tryz.ntmps135
    go_wp2_with (go_at_call 137; refine (slHasPrefix _ _ _ ).mono ?_; rintro e w' ⟨rfl, hw⟩; rw [hw, hh])
    go_ret
    refine ⟨?_, rfl⟩
    unfold mkS
    rw [Lib.trimPrefix_miss s p (by simp [h1])]
    rfl

theorem trimPrefix_any (s p : ByteArray) (w : World) :
    Calls Tryz.prog 102 #[.string s, .string p] w fun e w' => e = .returned (.string (mkS (Lib.trimPrefix s.data.toList p.data.toList))) ∧ w = w' := by
  go_enter Tryz.func102, Tryz.ntmps102
  go_wp2_with (go_at_call 135; refine (slTrimPrefix _ _ _ ).mono ?_; rintro e w' ⟨rfl, hw⟩; rw [hw])
  go_ret
  exact ⟨rfl, rfl⟩

set_option maxHeartbeats 1000000 in
theorem slTrimSuffix (s p : ByteArray) (w : World) (hs : s.size ≤ 9223372036854775807) :
    Calls Tryz.prog 142 #[.string s, .string p] w fun e w' => e = .returned (.string (mkS (Lib.trimSuffix s.data.toList p.data.toList))) ∧ w' = w := by
  by_cases h1 : p.size ≤ s.size
  · cases h2 : ((s.extract (s.size - p.size) s.size).toList == p.toList)
    · have hh : Lib.hasSuffix s.data.toList p.data.toList = false := by rw [← Lib.hasSuffix_raw, h2]; simp
      go_enter Tryz.func142, Tryz.ntmps142
      go_wp2_with (go_at_call 141; refine (slHasSuffix _ _ _ hs).mono ?_; rintro e w' ⟨rfl, hw⟩; rw [hw, hh])
      go_ret
      refine ⟨?_, rfl⟩
      unfold mkS
      rw [Lib.trimSuffix_miss s p (by rw [h2]; simp)]
      rfl
    · have hh : Lib.hasSuffix s.data.toList p.data.toList = true := by rw [← Lib.hasSuffix_raw, h2]; simp [h1]
      go_enter Tryz.func142, Tryz.ntmps142
      go_wp2_with (go_at_call 141; refine (slHasSuffix _ _ _ hs).mono ?_; rintro e w' ⟨rfl, hw⟩; rw [hw, hh])
      go_ret
      refine ⟨?_, rfl⟩
      unfold mkS
      rw [Lib.trimSuffix_hit s p h1 h2]
      rfl
  · have hh : Lib.hasSuffix s.data.toList p.data.toList = false := by rw [← Lib.hasSuffix_raw]; simp [h1]
    go_enter Tryz.func142, Tryz.ntmps142
    go_wp2_with (go_at_call 141; refine (slHasSuffix _ _ _ hs).mono ?_; rintro e w' ⟨rfl, hw⟩; rw [hw, hh])
    go_ret
    refine ⟨?_, rfl⟩
    unfold mkS
    rw [Lib.trimSuffix_miss s p (by simp [h1])]
    rfl

theorem trimSuffix_any (s p : ByteArray) (w : World) (hs : s.size ≤ 9223372036854775807) :
    Calls Tryz.prog 111 #[.string s, .string p] w fun e w' => e = .returned (.string (mkS (Lib.trimSuffix s.data.toList p.data.toList))) ∧ w = w' := by
  go_enter Tryz.func111, Tryz.ntmps111
  go_wp2_with (go_at_call 142; refine (slTrimSuffix _ _ _ hs).mono ?_; rintro e w' ⟨rfl, hw⟩; rw [hw])
  go_ret
  exact ⟨rfl, rfl⟩

end Go.Proofs.YtifkpibjeamfkaaGreatFmt
