/- The reference's PathOk. -/
import Derived.Test.YtifkpibjeamfkaaGreatFmtE1
set_option linter.unusedVariables false
namespace Go.Proofs.YtifkpibjeamfkaaGreatFmt
open Go.RowKit Go.Proofs

def pch (c : Nat) : Bool := letB c || c == 46 || c == 47
def PartOk (v : Value) : Prop := ∃ p n, v = .string p ∧ p.size = n + 1 ∧ letB (bt p 0) = true ∧ letB (bt p n) = true
/-- What PathOk tells. -/
structure PathF (s : ByteArray) : Prop where
  chars : ∀ k, k < s.size → pch (bt s k) = true
  parts : ∀ v ∈ cutL s 47, PartOk v
  len : s.size ≤ 100
  pre : (!decide (9 ≤ s.size) || !(s.extract 0 9).toList == ([103, 111, 112, 107, 103, 46, 105, 110, 47] : List UInt8)) = true
def SaysPath (s : ByteArray) (w : World) (e : Ending) (w' : World) : Prop := (∃ b, e = .returned (.bool b) ∧ (b = true → PathF s)) ∧ Below w.heap.size w w'

theorem cutL_pos (s : ByteArray) (c : Nat) : 0 < (cutL s c).length := by simp [cutL]
theorem cutOut_str (s : ByteArray) (c k : Nat) : ∀ v ∈ cutOut s c k, ∃ p : ByteArray, v = .string p ∧ p.size ≤ s.size := by
  induction k with
  | zero => intro v hv; cases hv
  | succ k ih =>
    intro v hv
    simp only [cutOut] at hv
    split at hv
    · rcases List.mem_append.1 hv with h | h
      · exact ih v h
      · simp at h; exact ⟨_, h, by simp [ByteArray.size_extract]; omega⟩
    · exact ih v hv
theorem cutL_str (s : ByteArray) (c : Nat) : ∀ v ∈ cutL s c, ∃ p : ByteArray, v = .string p ∧ p.size ≤ s.size := by
  intro v hv
  rcases List.mem_append.1 hv with h | h
  · exact cutOut_str s c _ v h
  · simp at h; exact ⟨_, h, by simp [ByteArray.size_extract]⟩

theorem empty_of_size {p : ByteArray} (h : p.size = 0) : p.toList.isEmpty = true := by
  rw [Lib.toList_data]
  rcases p with ⟨⟨l⟩⟩
  cases l with
  | nil => rfl
  | cons a l => simp [ByteArray.size] at h
theorem full_of_size {p : ByteArray} {n : Nat} (h : p.size = n + 1) : p.toList.isEmpty = false := by
  rw [Lib.toList_data]
  rcases p with ⟨⟨l⟩⟩
  cases l with
  | nil => simp [ByteArray.size] at h
  | cons a l => rfl

set_option maxRecDepth 100000 in
set_option maxHeartbeats 4000000 in
theorem pathOk_any (s : ByteArray) (w : World) (hs : s.size ≤ 2147483647) : Calls Tryz.prog 9 #[.string s] w (SaysPath s w) := by
  have no : ∀ w', Below w.heap.size w w' → SaysPath s w (.returned (.bool false)) w' := fun w' h => ⟨⟨false, rfl, fun h => by cases h⟩, h⟩
  have NO := hide no
  clear no
  go_enter Tryz.func9, Tryz.ntmps9
  go_wp2_with fail
  go_loopg [3] s.size (fun k v3 wr => wr = w ∧ ∃ j : Nat, j + k = s.size ∧ v3 = .int .i64 (j : Int) ∧ Hid (∀ i, i < j → pch (bt s i) = true))
  case atStart => exact ⟨rfl, 0, by omega, rfl, hide (fun i h => by omega)⟩
  case round =>
    obtain ⟨rfl, j, hj, rfl, HN⟩ := hrel
    rcases Nat.lt_or_ge j s.size with hlt | hge
    · have hget : (s[j]'hlt).toNat = bt s j := bt_get s j hlt
      have hnext : pch (bt s j) = true → Hid (∀ i, i < j + 1 → pch (bt s i) = true) := fun h => hide (fun i hi => by
        rcases Nat.lt_or_ge i j with h2 | h2
        · exact HN.out i h2
        · obtain rfl : i = j := by omega
          exact h)
      have HX := hide hnext
      clear hnext
      rcases hl : letB (bt s j) with _ | _
      · by_cases h46 : bt s j = 46
        · have hp : pch (bt s j) = true := by unfold pch; rw [h46]; rfl
          have g : ((bt s j : Int) != 46) = false := by rw [h46]; rfl
          have HP := hide hp
          have HL := hide hl
          clear hl hp h46
          go_wp2_with fail
          refine (letter_b (bt s j) false _ HL.out).mono ?_
          rintro e w1 ⟨rfl, rfl⟩
          go_wp2_with fail
          go_roundg (s.size - (j + 1))
          case measure => omega
          case rel => exact ⟨rfl, j + 1, by omega, by simp, HX.out HP.out⟩
        · by_cases h47 : bt s j = 47
          · have hp : pch (bt s j) = true := by unfold pch; rw [h47]; rfl
            have g : ((bt s j : Int) != 46) = true := by rw [h47]; rfl
            have g' : ((bt s j : Int) != 47) = false := by rw [h47]; rfl
            have HP := hide hp
            have HL := hide hl
            clear hl hp h46 h47
            go_wp2_with fail
            refine (letter_b (bt s j) false _ HL.out).mono ?_
            rintro e w1 ⟨rfl, rfl⟩
            go_wp2_with fail
            go_roundg (s.size - (j + 1))
            case measure => omega
            case rel => exact ⟨rfl, j + 1, by omega, by simp, HX.out HP.out⟩
          · have g : ((bt s j : Int) != 46) = true := by simp only [bne_iff_ne, ne_eq]; omega
            have g' : ((bt s j : Int) != 47) = true := by simp only [bne_iff_ne, ne_eq]; omega
            have HL := hide hl
            clear hl h46 h47
            go_wp2_with fail
            refine (letter_b (bt s j) false _ HL.out).mono ?_
            rintro e w1 ⟨rfl, rfl⟩
            go_wp2_with fail
            go_ret
            exact NO.out _ (Below.refl _ _)
      · have hp : pch (bt s j) = true := by unfold pch; rw [hl]; rfl
        have HP := hide hp
        have HL := hide hl
        clear hl hp
        go_wp2_with fail
        refine (letter_b (bt s j) true _ HL.out).mono ?_
        rintro e w1 ⟨rfl, rfl⟩
        go_wp2_with fail
        go_roundg (s.size - (j + 1))
        case measure => omega
        case rel => exact ⟨rfl, j + 1, by omega, by simp, HX.out HP.out⟩
    · obtain rfl : j = s.size := by omega
      go_wp2_with fail
      refine (cut_any s _ hs).mono ?_
      rintro e w1 ⟨v, rfl, hb1, ho⟩
      obtain ⟨g, cap, rfl⟩ := owns_form (n := (cutL s 47).length - 1) (by have := cutL_pos s 47; rw [show (cutL s 47).length - 1 + 1 = (cutL s 47).length from by omega]; exact ho)
      have hn1 : (cutL s 47).length - 1 + 1 = (cutL s 47).length := by have := cutL_pos s 47; omega
      rw [hn1]
      have hcell : ∀ i (hi : i < (cutL s 47).length), w1.cell? ⟨g, i, none⟩ = some ((cutL s 47)[i]) := by
        intro i hi
        rw [hn1] at ho
        rw [ho.cellAt i (by omega), List.getElem?_eq_getElem hi]
      have HB := hide hb1
      have HCELL := hide hcell
      have hNle : (cutL s 47).length ≤ s.size + 1 := by have := cutOut_le s 47 s.size; simp [cutL]; omega
      clear hb1 ho hn1 hcell
      go_wp2_with fail
      go_loopg [32] (cutL s 47).length (fun k v32 wr => wr = w1 ∧ ∃ j : Nat, j + k = (cutL s 47).length ∧ v32 = .int .i64 (j : Int) ∧ Hid (∀ i (hi : i < (cutL s 47).length), i < j → PartOk (cutL s 47)[i]))
      case atStart => exact ⟨rfl, 0, by omega, rfl, hide (fun i hi h => by omega)⟩
      case round =>
        obtain ⟨rfl, j, hj, rfl, HN2⟩ := hrel
        rcases Nat.lt_or_ge j (cutL s 47).length with hlt | hge
        · obtain ⟨p, hp, hps⟩ := cutL_str s 47 _ (List.getElem_mem hlt)
          have hc : wr.cell? ⟨g, j, none⟩ = some (.string p) := by rw [HCELL.out j hlt, hp]
          have HPP := hide hp
          clear hp
          rcases hn : p.size with _ | m
          · have he := empty_of_size hn
            clear hn
            go_wp2_with fail
            go_ret
            exact NO.out _ HB.out
          · have he := full_of_size hn
            have h0 : (p[0]'(by omega)).toNat = bt p 0 := bt_get p 0 (by omega)
            have hm : (p[m]'(by omega)).toNat = bt p m := bt_get p m (by omega)
            have hwr : IntKind.i64.wrap (m : Int) = (m : Int) := Go.IntWalk.i64_in _ (by omega)
            have HNN := hide hn
            rcases hl0 : letB (bt p 0) with _ | _
            · have HL := hide hl0
              clear hl0
              go_wp2_with fail
              refine (letter_b (bt p 0) false _ HL.out).mono ?_
              rintro e w2 ⟨rfl, rfl⟩
              go_wp2_with fail
              go_ret
              exact NO.out _ HB.out
            · have HL := hide hl0
              clear hl0
              go_wp2_with fail
              refine (letter_b (bt p 0) true _ HL.out).mono ?_
              rintro e w2 ⟨rfl, rfl⟩
              go_wp2_with fail
              rcases hlm : letB (bt p m) with _ | _
              · have HLM := hide hlm
                clear hlm
                refine (letter_b (bt p m) false _ HLM.out).mono ?_
                rintro e w2 ⟨rfl, rfl⟩
                go_wp2_with fail
                go_ret
                exact NO.out _ HB.out
              · have HLM := hide hlm
                clear hlm
                refine (letter_b (bt p m) true _ HLM.out).mono ?_
                rintro e w2 ⟨rfl, rfl⟩
                go_wp2_with fail
                go_roundg ((cutL s 47).length - (j + 1))
                case measure => omega
                case rel =>
                  refine ⟨rfl, j + 1, by omega, by simp, hide (fun i hi hlt2 => ?_)⟩
                  rcases Nat.lt_or_ge i j with h2 | h2
                  · exact HN2.out i hi h2
                  · obtain rfl : i = j := by omega
                    exact ⟨p, m, HPP.out, HNN.out, HL.out, HLM.out⟩
        · obtain rfl : j = (cutL s 47).length := by omega
          by_cases h100 : (s.size : Int) ≤ 100
          · go_wp2_with fail
            refine (begins_any s ⟨#[103, 111, 112, 107, 103, 46, 105, 110, 47]⟩ _ (by omega) (by decide)).mono ?_
            rintro e w2 ⟨rfl, rfl⟩
            go_wp2_with fail
            go_ret
            refine ⟨⟨_, rfl, fun hb => ⟨HN.out, fun v hv => ?_, by omega, ?_⟩⟩, HB.out⟩
            · obtain ⟨i, hi, rfl⟩ := List.getElem_of_mem hv
              exact HN2.out i hi hi
            · exact hb
          · go_wp2_with fail
            go_ret
            exact NO.out _ HB.out
end Go.Proofs.YtifkpibjeamfkaaGreatFmt
