/- The reference's letter, digit, Begins, Cut. -/
import Derived.Test.YtifkpibjeamfkaaGreatFmtC7
set_option linter.unusedVariables false
namespace Go.Proofs.YtifkpibjeamfkaaGreatFmt
open Go.RowKit Go.Proofs

def letB (c : Nat) : Bool := decide (97 ≤ c ∧ c ≤ 122)
def digB (c : Nat) : Bool := decide (48 ≤ c ∧ c ≤ 57)

theorem letter_b (c : Nat) (b : Bool) (w : World) (h : letB c = b) : Calls Tryz.prog 28 #[.int .u8 (c : Int)] w fun e w' => e = .returned (.bool b) ∧ w = w' := by
  unfold letB at h
  cases b with
  | true =>
    have h' := of_decide_eq_true h
    have h1 : (97 : Int) ≤ (c : Int) := by omega
    have h2 : (c : Int) ≤ 122 := by omega
    clear h h'
    go_enter Tryz.func28, Tryz.ntmps28
    go_wp2
    go_ret
    exact ⟨rfl, rfl⟩
  | false =>
    have h' := of_decide_eq_false h
    clear h
    by_cases h1 : (97 : Int) ≤ (c : Int)
    · have h2 : ¬ (c : Int) ≤ 122 := by omega
      clear h'
      go_enter Tryz.func28, Tryz.ntmps28
      go_wp2
      go_ret
      exact ⟨rfl, rfl⟩
    · clear h'
      go_enter Tryz.func28, Tryz.ntmps28
      go_wp2
      go_ret
      exact ⟨rfl, rfl⟩
theorem digit_b (c : Nat) (b : Bool) (w : World) (h : digB c = b) : Calls Tryz.prog 31 #[.int .u8 (c : Int)] w fun e w' => e = .returned (.bool b) ∧ w = w' := by
  unfold digB at h
  cases b with
  | true =>
    have h' := of_decide_eq_true h
    have h1 : (48 : Int) ≤ (c : Int) := by omega
    have h2 : (c : Int) ≤ 57 := by omega
    clear h h'
    go_enter Tryz.func31, Tryz.ntmps31
    go_wp2
    go_ret
    exact ⟨rfl, rfl⟩
  | false =>
    have h' := of_decide_eq_false h
    clear h
    by_cases h1 : (48 : Int) ≤ (c : Int)
    · have h2 : ¬ (c : Int) ≤ 57 := by omega
      clear h'
      go_enter Tryz.func31, Tryz.ntmps31
      go_wp2
      go_ret
      exact ⟨rfl, rfl⟩
    · clear h'
      go_enter Tryz.func31, Tryz.ntmps31
      go_wp2
      go_ret
      exact ⟨rfl, rfl⟩

theorem begins_any (s p : ByteArray) (w : World) (hs : s.size ≤ 1000000) (hp : p.size ≤ 1000000) :
    Calls Tryz.prog 30 #[.string s, .string p] w fun e w' => e = .returned (.bool (decide (p.size ≤ s.size) && ((s.extract 0 p.size).toList == p.toList))) ∧ w = w' := by
  by_cases h : p.size ≤ s.size
  · have h1 : (p.size : Int) ≤ (s.size : Int) := by omega
    have h0 : (0 : Int) ≤ (p.size : Int) := by omega
    go_enter Tryz.func30, Tryz.ntmps30
    go_wp2_with fail
    go_ret
    exact ⟨by simp [h], rfl⟩
  · have h1 : ¬ (p.size : Int) ≤ (s.size : Int) := by omega
    go_enter Tryz.func30, Tryz.ntmps30
    go_wp2_with fail
    go_ret
    exact ⟨by simp, rfl⟩

def cutFrom (s : ByteArray) (c : Nat) : Nat → Nat
  | 0 => 0
  | k + 1 => if bt s k = c then k + 1 else cutFrom s c k
def cutOut (s : ByteArray) (c : Nat) : Nat → List Value
  | 0 => []
  | k + 1 => if bt s k = c then cutOut s c k ++ [.string (s.extract (cutFrom s c k) k)] else cutOut s c k
def cutL (s : ByteArray) (c : Nat) : List Value := cutOut s c s.size ++ [.string (s.extract (cutFrom s c s.size) s.size)]
theorem cutFrom_le (s : ByteArray) (c k : Nat) : cutFrom s c k ≤ k := by
  induction k with
  | zero => exact Nat.le_refl _
  | succ k ih => simp only [cutFrom]; split <;> omega
theorem cutOut_le (s : ByteArray) (c k : Nat) : (cutOut s c k).length ≤ k := by
  induction k with
  | zero => exact Nat.le_refl _
  | succ k ih =>
    simp only [cutOut]; split
    · simp; omega
    · omega

theorem own_base {w : World} {b : Nat} {e : TypeId} {size n k : Nat} {v : Value} {xs : List Value} (h : w.ownsRow b e size v n xs) (hk : v.ownBlock = some k) : b ≤ k := by
  rcases h.2 with ⟨rfl, _⟩ | ⟨g, cap, cur, rfl, hg, _⟩
  · cases hk
  · injection hk with hk; exact hk ▸ hg

def CutInv (s : ByteArray) (w : World) (j : Nat) (v : Value) (wr : World) : Prop := wr.ownsRow w.heap.size 9 1 v (cutOut s 47 j).length (cutOut s 47 j) ∧ Below w.heap.size w wr

set_option maxRecDepth 100000 in
set_option maxHeartbeats 2000000 in
theorem cut_any (s : ByteArray) (w : World) (hs : s.size ≤ 2147483647) :
    Calls Tryz.prog 29 #[.string s, .int .u8 47] w fun e w' => ∃ v, e = .returned v ∧ Below w.heap.size w w' ∧ w'.ownsRow w.heap.size 9 1 v (cutL s 47).length (cutL s 47) := by
  obtain ⟨i0, hi0, hz0, hz1, hz2⟩ := info_parts Tryz.infoStr
  go_enter Tryz.func29, Tryz.ntmps29
  go_wp2_with fail
  go_loopg [5, 6, 7] s.size (fun k v5 v6 v7 wr => ∃ j : Nat, j + k = s.size ∧ v7 = .int .i64 (j : Int) ∧ v6 = .int .i64 (cutFrom s 47 j : Nat) ∧ Hid (CutInv s w j v5 wr))
  case atStart =>
    refine ⟨0, by omega, rfl, rfl, hide ⟨?_, (Below.refl _ _).alloc (Nat.le_refl _) _⟩⟩
    have := owns_new w w.heap.size 9 #[] (Nat.le_refl _) (by simp [maxLen])
    simpa [cutOut] using this
  case round =>
    obtain ⟨j, hj, rfl, rfl, HI⟩ := hrel
    have hfj := cutFrom_le s 47 j
    have hol := cutOut_le s 47 j
    have hwl : w.heap.size ≤ wr.heap.size := HI.out.2.size
    rcases Nat.lt_or_ge j s.size with hlt | hge
    · have hget : (s[j]'hlt).toNat = bt s j := bt_get s j hlt
      by_cases h47 : bt s j = 47
      · have g : ((bt s j : Int) == 47) = true := by rw [h47]; rfl
        have z0 : (0 : Int) ≤ (cutFrom s 47 j : Nat) := by omega
        have z1 : ((cutFrom s 47 j : Nat) : Int) ≤ (j : Int) := by omega
        have z2 : (j : Int) ≤ (s.size : Int) := by omega
        have H47 := hide h47
        have hm1 : (cutOut s 47 j).length + 1 ≤ maxLen := by unfold maxLen; omega
        have hm2 : ((cutOut s 47 j).length + 1) * 16 ≤ 140737488355328 := by omega
        have M := hide (And.intro hm1 hm2)
        clear h47 hm1 hm2 hfj
        go_wp2_with (at_builtin; refine wpList_append_lies _ rfl _ _ _ rfl w.heap.size 9 i0 _ 1 16 Tryz.und_strs hi0 hz0 hz1 hz2 rfl (by omega) _ _ _ (by rfl) (HI.out.1.alloc _) ⟨wr.heap.size, 0, none⟩ 1 1 [.string (s.extract (cutFrom s 47 j) j)] (by rfl) (by rfl) (news_one _ _ _) (by simp [Value.oneCell']) (by omega) M.out.1 M.out.2 (by simp; omega) (wr.heap.size + 1) (by simp) ?_; intro gg cap w3 hown3 hgrow3 hat3 hlt3; have HOWN3 := hide hown3; have hb3 : Below w.heap.size w w3 := (HI.out.2.alloc hwl _).grown hgrow3 (by simp; omega) (fun k e => own_base HI.out.1 e); have HB3 := hide hb3; clear hown3 hgrow3 hat3 hlt3 hb3)
        go_roundg (s.size - (j + 1))
        case measure => omega
        case rel =>
          refine ⟨j + 1, by omega, by simp, ?_, hide ⟨?_, HB3.out⟩⟩
          · simp [cutFrom, H47.out]
          · simpa [cutOut, H47.out] using HOWN3.out
      · have g : ((bt s j : Int) == 47) = false := by simp only [beq_eq_false_iff_ne]; omega
        have H47 := hide h47
        clear h47
        go_wp2_with fail
        go_roundg (s.size - (j + 1))
        case measure => omega
        case rel =>
          refine ⟨j + 1, by omega, by simp, ?_, hide ⟨?_, HI.out.2⟩⟩
          · simp [cutFrom, H47.out]
          · simpa [cutOut, H47.out] using HI.out.1
    · obtain rfl : j = s.size := by omega
      have z0 : (0 : Int) ≤ (cutFrom s 47 s.size : Nat) := by omega
      have z1 : ((cutFrom s 47 s.size : Nat) : Int) ≤ (s.size : Int) := by omega
      have hm1 : (cutOut s 47 s.size).length + 1 ≤ maxLen := by unfold maxLen; omega
      have hm2 : ((cutOut s 47 s.size).length + 1) * 16 ≤ 140737488355328 := by omega
      have M := hide (And.intro hm1 hm2)
      clear hm1 hm2 hfj
      go_wp2_with (at_builtin; refine wpList_append_lies _ rfl _ _ _ rfl w.heap.size 9 i0 _ 1 16 Tryz.und_strs hi0 hz0 hz1 hz2 rfl (by omega) _ _ _ (by rfl) (HI.out.1.alloc _) ⟨wr.heap.size, 0, none⟩ 1 1 [.string (s.extract (cutFrom s 47 s.size) s.size)] (by rfl) (by rfl) (news_one _ _ _) (by simp [Value.oneCell']) (by omega) M.out.1 M.out.2 (by simp; omega) (wr.heap.size + 1) (by simp) ?_; intro gg cap w3 hown3 hgrow3 hat3 hlt3; have HOWN3 := hide hown3; have hb3 : Below w.heap.size w w3 := (HI.out.2.alloc hwl _).grown hgrow3 (by simp; omega) (fun k e => own_base HI.out.1 e); have HB3 := hide hb3; clear hown3 hgrow3 hat3 hlt3 hb3)
      go_ret
      exact ⟨_, rfl, HB3.out, by simpa [cutL] using HOWN3.out⟩
end Go.Proofs.YtifkpibjeamfkaaGreatFmt
