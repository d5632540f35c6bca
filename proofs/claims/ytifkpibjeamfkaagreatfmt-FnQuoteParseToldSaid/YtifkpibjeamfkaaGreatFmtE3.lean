/- The reference's WordOk. -/
import Derived.Test.YtifkpibjeamfkaaGreatFmtE2
set_option linter.unusedVariables false
namespace Go.Proofs.YtifkpibjeamfkaaGreatFmt
open Go.RowKit Go.Proofs

def wdc (c : Nat) : Bool := letB c || digB c || c == 46
structure WordF (s : ByteArray) : Prop where
  chars : ∀ k, k < s.size → wdc (bt s k) = true
  pos : 0 < s.size
  len : s.size ≤ 50
def SaysWord (s : ByteArray) (w : World) (e : Ending) (w' : World) : Prop := (∃ b, e = .returned (.bool b) ∧ (b = true → WordF s)) ∧ w' = w

set_option maxRecDepth 100000 in
set_option maxHeartbeats 4000000 in
theorem wordOk_any (s : ByteArray) (w : World) (hs : s.size ≤ 2147483647) : Calls Tryz.prog 14 #[.string s] w (SaysWord s w) := by
  have no : SaysWord s w (.returned (.bool false)) w := ⟨⟨false, rfl, fun h => by cases h⟩, rfl⟩
  have NO := hide no
  clear no
  go_enter Tryz.func14, Tryz.ntmps14
  go_wp2_with fail
  go_loopg [3] s.size (fun k v3 wr => wr = w ∧ ∃ j : Nat, j + k = s.size ∧ v3 = .int .i64 (j : Int) ∧ Hid (∀ i, i < j → wdc (bt s i) = true))
  case atStart => exact ⟨rfl, 0, by omega, rfl, hide (fun i h => by omega)⟩
  case round =>
    obtain ⟨rfl, j, hj, rfl, HN⟩ := hrel
    rcases Nat.lt_or_ge j s.size with hlt | hge
    · have hget : (s[j]'hlt).toNat = bt s j := bt_get s j hlt
      have hnext : wdc (bt s j) = true → Hid (∀ i, i < j + 1 → wdc (bt s i) = true) := fun h => hide (fun i hi => by
        rcases Nat.lt_or_ge i j with h2 | h2
        · exact HN.out i h2
        · obtain rfl : i = j := by omega
          exact h)
      have HX := hide hnext
      clear hnext
      rcases hl : letB (bt s j) with _ | _
      · rcases hd : digB (bt s j) with _ | _
        · by_cases h46 : bt s j = 46
          · have hp : wdc (bt s j) = true := by unfold wdc; rw [h46]; rfl
            have g : ((bt s j : Int) != 46) = false := by rw [h46]; rfl
            have HP := hide hp
            have HL := hide (And.intro hl hd)
            clear hl hd hp h46
            go_wp2_with fail
            refine (letter_b (bt s j) false _ HL.out.1).mono ?_
            rintro e w1 ⟨rfl, rfl⟩
            go_wp2_with fail
            refine (digit_b (bt s j) false _ HL.out.2).mono ?_
            rintro e w1 ⟨rfl, rfl⟩
            go_wp2_with fail
            go_roundg (s.size - (j + 1))
            case measure => omega
            case rel => exact ⟨rfl, j + 1, by omega, by simp, HX.out HP.out⟩
          · have g : ((bt s j : Int) != 46) = true := by simp only [bne_iff_ne, ne_eq]; omega
            have HL := hide (And.intro hl hd)
            clear hl hd h46
            go_wp2_with fail
            refine (letter_b (bt s j) false _ HL.out.1).mono ?_
            rintro e w1 ⟨rfl, rfl⟩
            go_wp2_with fail
            refine (digit_b (bt s j) false _ HL.out.2).mono ?_
            rintro e w1 ⟨rfl, rfl⟩
            go_wp2_with fail
            go_ret
            exact NO.out
        · have hp : wdc (bt s j) = true := by unfold wdc; rw [hd]; simp
          have HP := hide hp
          have HL := hide (And.intro hl hd)
          clear hl hd hp
          go_wp2_with fail
          refine (letter_b (bt s j) false _ HL.out.1).mono ?_
          rintro e w1 ⟨rfl, rfl⟩
          go_wp2_with fail
          refine (digit_b (bt s j) true _ HL.out.2).mono ?_
          rintro e w1 ⟨rfl, rfl⟩
          go_wp2_with fail
          go_roundg (s.size - (j + 1))
          case measure => omega
          case rel => exact ⟨rfl, j + 1, by omega, by simp, HX.out HP.out⟩
      · have hp : wdc (bt s j) = true := by unfold wdc; rw [hl]; rfl
        have HP := hide hp
        have HL := hide hl
        clear hl hp
        go_wp2_with fail
        refine (letter_b (bt s j) true _ HL.out).mono ?_
        rintro e w1 ⟨rfl, rfl⟩
        go_wp2_with fail
        go_roundg (s.size - (j + 1))
        case measure => omega
        case rel => exact ⟨rfl, j + 1, by omega, by simp, HX.out HP.out⟩
    · obtain rfl : j = s.size := by omega
      rcases hn : s.size with _ | m
      · have he := empty_of_size hn
        go_wp2_with fail
        go_ret
        exact NO.out
      · have he := full_of_size hn
        by_cases h50 : ((m : Int) + 1) ≤ 50
        · have HNN := hide hn
          go_wp2_with fail
          go_ret
          exact ⟨⟨true, rfl, fun _ => ⟨HN.out, by rw [HNN.out]; omega, by rw [HNN.out]; omega⟩⟩, rfl⟩
        · go_wp2_with fail
          go_ret
          exact NO.out
end Go.Proofs.YtifkpibjeamfkaaGreatFmt
