/- MustQuote at a text of printed signs. -/
import Derived.Test.YtifkpibjeamfkaaGreatFmtC4
import Derived.Test.YtifkpibjeamfkaaGreatFmtP1
set_option linter.unusedVariables false
namespace Go.Proofs.YtifkpibjeamfkaaGreatFmt
open Go.RowKit Go.Proofs

def qCh (c : Nat) : Bool := c == 32 || c == 34 || c == 39 || c == 96
def brCh (c : Nat) : Bool := c == 40 || c == 41 || c == 91 || c == 93 || c == 123 || c == 125 || c == 44
def s2 : ByteArray := ⟨#[47, 47]⟩
def s3 : ByteArray := ⟨#[47, 42]⟩
/-- Must a text of printed signs be quoted? -/
def mqAt (s : ByteArray) (k : Nat) : Bool := qCh (bt s k) || (brCh (bt s k) && decide (1 < s.size))
def mqB (s : ByteArray) : Bool := (List.range s.size).any (mqAt s) || s.size == 0 || standsB s s2 || standsB s s3

set_option maxRecDepth 100000 in
set_option maxHeartbeats 2000000 in
theorem mustQuote_any (s : ByteArray) (w : World) (hs : ∀ k, k < s.size → 32 ≤ bt s k ∧ bt s k ≤ 126) (hl : s.size ≤ 1000000) (hpr : PrTab w) (hP : 0 < w.heap.size) :
    Calls Tryz.prog 47 #[.string s] w fun e w' => e = .returned (.bool (mqB s)) ∧ Below w.heap.size w w' := by
  have hu : Tryz.prog.underlying 9 = some .string := by kernel_rfl
  have hrs : ∀ (W : World), (Instr.range 9 (.string s)).run Tryz.prog W = .ok (.pointer (some ⟨W.heap.size, 0, none⟩)) (W.iter s 0) := fun W => run_range_string W _ _ hu
  have HS := hide hs
  have HP := hide hpr
  clear hs hpr
  go_enter Tryz.func47, Tryz.ntmps47
  go_wp2_with fail
  go_loopg [2, 4] s.size (fun k v2 v4 wr => v2 = .bool false ∧ ∃ j, j + k = s.size ∧ wr = w.iter s j ∧ Hid (∀ i, i < j → mqAt s i = false))
  case atStart => exact ⟨rfl, 0, by omega, rfl, hide (fun i h => by omega)⟩
  case round =>
    obtain ⟨rfl, j, hj, rfl, HN⟩ := hrel
    rcases Nat.lt_or_ge j s.size with hlt | hge
    · have hc := HS.out j hlt
      have hn : ∀ ty, (Instr.next (.pointer (some ⟨w.heap.size, 0, none⟩)) true ty).run Tryz.prog (w.iter s j) = .ok (.tuple #[.bool true, .int .i64 j, .int .i32 (bt s j : Nat)]) (w.iter s (j + 1)) := by
        intro ty
        rw [run_next_ascii w s j ty hlt (by rw [bt_get]; omega), bt_get]
      have hpr1 : PrTab (w.iter s (j + 1)) := HP.out.keptT (N := w.heap.size) (S := fun _ => False) ((Kt.refl _ _ _).alloc (Nat.le_refl _) _) hP
      have HP1 := hide hpr1
      clear hpr1
      have hyes : mqAt s j = true → mqB s = true := by
        intro h
        unfold mqB
        have : (List.range s.size).any (mqAt s) = true := List.any_eq_true.2 ⟨j, by simpa using hlt, h⟩
        rw [this]; rfl
      have hbel : Below w.heap.size w (w.iter s (j + 1)) := (Below.refl _ w).alloc (Nat.le_refl _) _
      have HY := hide hyes
      have HB := hide hbel
      clear hyes hbel
      rcases hq : qCh (bt s j) with _ | _
      · rcases hb : brCh (bt s j) with _ | _
        · -- a plain sign
          have hno : mqAt s j = false := by unfold mqAt; rw [hq, hb]; rfl
          simp only [qCh, brCh, Bool.or_eq_false_iff, beq_eq_false_iff_ne] at hq hb
          have f32 : ((bt s j : Int) == 32) = false := by simp only [beq_eq_false_iff_ne]; omega
          have f34 : ((bt s j : Int) == 34) = false := by simp only [beq_eq_false_iff_ne]; omega
          have f39 : ((bt s j : Int) == 39) = false := by simp only [beq_eq_false_iff_ne]; omega
          have f96 : ((bt s j : Int) == 96) = false := by simp only [beq_eq_false_iff_ne]; omega
          have f40 : ((bt s j : Int) == 40) = false := by simp only [beq_eq_false_iff_ne]; omega
          have f41 : ((bt s j : Int) == 41) = false := by simp only [beq_eq_false_iff_ne]; omega
          have f91 : ((bt s j : Int) == 91) = false := by simp only [beq_eq_false_iff_ne]; omega
          have f93 : ((bt s j : Int) == 93) = false := by simp only [beq_eq_false_iff_ne]; omega
          have f123 : ((bt s j : Int) == 123) = false := by simp only [beq_eq_false_iff_ne]; omega
          have f125 : ((bt s j : Int) == 125) = false := by simp only [beq_eq_false_iff_ne]; omega
          have f44 : ((bt s j : Int) == 44) = false := by simp only [beq_eq_false_iff_ne]; omega
          have hpt : decide (32 ≤ bt s j ∧ bt s j ≤ 126) = true := decide_eq_true hc
          have hca : bt s j < 128 := by omega
          have HPT := hide hpt
          have HNO := hide hno
          clear hq hb hpt hno hc
          go_wp2_with fail
          refine (isPrint_ascii (bt s j) _ hca HP1.out).mono ?_
          rw [HPT.out]
          rintro e w1 ⟨rfl, rfl⟩
          go_wp2_with fail
          go_roundg (s.size - (j + 1))
          case measure => omega
          case rel =>
            refine ⟨rfl, j + 1, by omega, rfl, hide (fun i hi => ?_)⟩
            rcases Nat.lt_or_ge i j with h2 | h2
            · exact HN.out i h2
            · obtain rfl : i = j := by omega
              exact HNO.out
        · -- a bracket or a comma
          have h7 : bt s j = 40 ∨ bt s j = 41 ∨ bt s j = 91 ∨ bt s j = 93 ∨ bt s j = 123 ∨ bt s j = 125 ∨ bt s j = 44 := by
            simp only [brCh, Bool.or_eq_true, beq_iff_eq] at hb
            omega
          rcases Nat.lt_or_ge 1 s.size with hs1 | hs1
          · have hmq : mqB s = true := HY.out (by unfold mqAt; rw [hq, hb]; simp; omega)
            have HM := hide hmq
            have hs2 : (1 : Int) < (s.size : Int) := by omega
            clear hmq hq hb
            rcases h7 with h4 | h4 | h4 | h4 | h4 | h4 | h4
            all_goals
              rw [h4] at hn
              clear h4 hc
              go_wp2_with fail
              go_ret
              exact ⟨by rw [HM.out]; rfl, HB.out⟩
          · have hno : mqAt s j = false := by unfold mqAt; rw [hq, hb]; simp; omega
            have HNO := hide hno
            have hs2 : ¬ (1 : Int) < (s.size : Int) := by omega
            clear hq hb hno
            rcases h7 with h4 | h4 | h4 | h4 | h4 | h4 | h4
            all_goals
              rw [h4] at hn
              clear h4 hc
              go_wp2_with fail
              go_roundg (s.size - (j + 1))
              case measure => omega
              case rel =>
                refine ⟨rfl, j + 1, by omega, rfl, hide (fun i hi => ?_)⟩
                rcases Nat.lt_or_ge i j with h2 | h2
                · exact HN.out i h2
                · obtain rfl : i = j := by omega
                  exact HNO.out
      · -- a blank, a quote
        have hmq : mqB s = true := HY.out (by unfold mqAt; rw [hq]; rfl)
        have h4 : bt s j = 32 ∨ bt s j = 34 ∨ bt s j = 39 ∨ bt s j = 96 := by
          simp only [qCh, Bool.or_eq_true, beq_iff_eq] at hq
          omega
        have HM := hide hmq
        clear hmq hq
        rcases h4 with h4 | h4 | h4 | h4
        all_goals
          rw [h4] at hn
          clear h4 hc
          go_wp2_with fail
          go_ret
          exact ⟨by rw [HM.out]; rfl, HB.out⟩
    · obtain rfl : j = s.size := by omega
      have hany : (List.range s.size).any (mqAt s) = false := by
        rw [List.any_eq_false]
        intro i hi
        simp [HN.out i (by simpa using hi)]
      have hn : ∀ ty, (Instr.next (.pointer (some ⟨w.heap.size, 0, none⟩)) true ty).run Tryz.prog (w.iter s s.size) = .ok (.tuple #[.bool false]) (w.iter s s.size) := fun ty => run_next_end w s s.size ty (by omega)
      have hbel : Below w.heap.size w (w.iter s s.size) := (Below.refl _ w).alloc (Nat.le_refl _) _
      have HB := hide hbel
      have hmq : mqB s = (s.size == 0 || standsB s s2 || standsB s s3) := by unfold mqB; rw [hany]; simp
      have HM := hide hmq
      clear hany hbel hmq
      have he0 : s.toList.isEmpty = (s.size == 0) := by
        rw [Lib.toList_data]
        rcases s with ⟨⟨l⟩⟩
        cases l <;> rfl
      rcases hz : (s.size == 0) with _ | _
      · have hsn : s.toList.isEmpty = false := he0.trans hz
        clear he0
        have hz' := HM.out
        rw [hz] at hz'
        have HZ := hide hz'
        clear hz hz' HM
        rcases h2 : standsB s s2 with _ | _
        · rcases h3 : standsB s s3 with _ | _
          all_goals
            have H2 := hide h2
            have H3 := hide h3
            clear h2 h3
            go_wp2_with fail
            refine (zzContains_any s s2 _ hl (by decide)).mono ?_
            rw [H2.out]
            rintro e w1 ⟨rfl, rfl⟩
            go_wp2_with fail
            refine (zzContains_any s s3 _ hl (by decide)).mono ?_
            rw [H3.out]
            rintro e w1 ⟨rfl, rfl⟩
            go_wp2_with fail
            go_ret
            exact ⟨by rw [HZ.out, H2.out, H3.out]; rfl, HB.out⟩
        · have H2 := hide h2
          clear h2
          go_wp2_with fail
          refine (zzContains_any s s2 _ hl (by decide)).mono ?_
          rw [H2.out]
          rintro e w1 ⟨rfl, rfl⟩
          go_wp2_with fail
          go_ret
          exact ⟨by rw [HZ.out, H2.out]; rfl, HB.out⟩
      · have hsn : s.toList.isEmpty = true := he0.trans hz
        clear he0
        have hz' := HM.out
        rw [hz] at hz'
        have HZ := hide hz'
        clear hz hz' HM
        go_wp2_with fail
        go_ret
        exact ⟨by rw [HZ.out]; rfl, HB.out⟩
end Go.Proofs.YtifkpibjeamfkaaGreatFmt
