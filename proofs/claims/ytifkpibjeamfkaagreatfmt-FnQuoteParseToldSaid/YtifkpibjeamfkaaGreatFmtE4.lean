/- What PathOk and WordOk tell, in the lexer's and the rules' words. -/
import Derived.Test.YtifkpibjeamfkaaGreatFmtE3
import Derived.Test.YtifkpibjeamfkaaGreatFmtD1
set_option linter.unusedVariables false
namespace Go.Proofs.YtifkpibjeamfkaaGreatFmt
open Go.RowKit Go.Proofs

def bsl (s : ByteArray) : List UInt8 := s.data.toList
theorem bsl_len (s : ByteArray) : (bsl s).length = s.size := by cases s; simp [bsl, ByteArray.size]
theorem bt_ch (s : ByteArray) (k : Nat) : bt s k = ch (bsl s) k := by
  simp [bt, ch, bsl, Array.getD_eq_getD_getElem?, List.getD_eq_getElem?_getD]
theorem mkS_bsl (s : ByteArray) : mkS (bsl s) = s := mkS_of s

/-- Signs of words and paths. -/
def wch (c : Nat) : Bool := letB c || digB c || c == 46 || c == 47
structure Nice (s : ByteArray) : Prop where
  pos : 0 < s.size
  len : s.size ≤ 1000000
  chars : ∀ k, k < s.size → wch (bt s k) = true
  sl : ∀ k, k + 1 < s.size → bt s k = 47 → bt s (k + 1) ≠ 47
theorem wch_bd {c : Nat} (h : wch c = true) : (97 ≤ c ∧ c ≤ 122) ∨ (48 ≤ c ∧ c ≤ 57) ∨ c = 46 ∨ c = 47 := by
  simp only [wch, letB, digB, Bool.or_eq_true, decide_eq_true_eq, beq_iff_eq] at h
  omega

theorem extract_two (s : ByteArray) (k a b : Nat) (h : k + 2 ≤ s.size) (ha : a < 256) (hb : b < 256) (he : (s.extract k (k + 2)).toList = [UInt8.ofNat a, UInt8.ofNat b]) : bt s k = a ∧ bt s (k + 1) = b := by
  rw [Lib.toList_data] at he
  have e1 : (s.extract k (k + 2)).data.toList = ((bsl s).drop k).take 2 := by
    cases s; simp [bsl, ByteArray.extract, ByteArray.copySlice]
  rw [e1] at he
  have h1 := congrArg (fun l => l[0]?) he
  have h2 := congrArg (fun l => l[1]?) he
  simp [List.getElem?_drop] at h1 h2
  have l := bsl_len s
  rw [bt_ch, bt_ch]
  unfold ch
  rw [List.getD_eq_getElem?_getD, List.getD_eq_getElem?_getD, h1, h2]
  simp [Nat.mod_eq_of_lt ha, Nat.mod_eq_of_lt hb]

theorem Nice.plain {s : ByteArray} (h : Nice s) : Plain s := by
  have hc := fun k hk => wch_bd (h.chars k hk)
  refine ⟨fun k hk => by have := hc k hk; omega, ?_, h.len, ?_⟩
  · have h0 := hc 0 h.pos
    rw [bt_ch] at h0
    have hl := h.pos
    rw [← bsl_len] at hl
    change Lib.hasPrefix (bsl s) [34] = false
    cases hb : bsl s with
    | nil => rw [hb] at hl; simp at hl
    | cons a l =>
      rw [hb] at h0
      have ha : a ≠ 34 := by
        rintro rfl
        simp [ch] at h0
      simp [Lib.hasPrefix, List.isPrefixOf, Ne.symm ha]
  · unfold mqB
    have h1 : (List.range s.size).any (mqAt s) = false := by
      rw [List.any_eq_false]
      intro k hk
      have hk' : k < s.size := by simpa using hk
      have := hc k hk'
      simp only [mqAt, qCh, brCh, Bool.or_eq_true, Bool.and_eq_true, beq_iff_eq, decide_eq_true_eq]
      omega
    have h2 : (s.size == 0) = false := by simp only [beq_eq_false_iff_ne, ne_eq]; have := h.pos; omega
    have h3 : standsB s s2 = false := by
      unfold standsB
      rw [List.any_eq_false]
      intro k hk he
      simp only [atB, Bool.and_eq_true, decide_eq_true_eq, beq_iff_eq] at he
      have := extract_two s k 47 47 he.1 (by omega) (by omega) (he.2.trans (by rw [Lib.toList_data]; rfl))
      exact h.sl k (by have := he.1; change k + 2 ≤ s.size at this; omega) this.1 this.2
    have h4 : standsB s s3 = false := by
      unfold standsB
      rw [List.any_eq_false]
      intro k hk he
      simp only [atB, Bool.and_eq_true, decide_eq_true_eq, beq_iff_eq] at he
      have h5 := extract_two s k 47 42 he.1 (by omega) (by omega) (he.2.trans (by rw [Lib.toList_data]; rfl))
      have h6 : k + 2 ≤ s.size := he.1
      have := hc (k + 1) (by omega)
      omega
    rw [h1, h2, h3, h4]; rfl

theorem Nice.idW {s : ByteArray} (h : Nice s) : IdW (bsl s) := by
  have hc := fun k hk => wch_bd (h.chars k hk)
  have hl := bsl_len s
  refine ⟨by rw [hl]; exact h.pos, fun i hi => ?_, ?_, ?_⟩
  · rw [hl] at hi
    have h1 := hc i hi
    rw [← bt_ch]
    refine ⟨?_, ?_, ?_⟩
    · simp only [idB, decide_eq_true_eq]; omega
    · rintro ⟨h2, h3, h4⟩
      rw [hl] at h2
      rw [← bt_ch] at h3 h4
      exact h.sl i h2 h3 h4
    · rintro ⟨h2, h3, h4⟩
      rw [hl] at h2
      rw [← bt_ch] at h3 h4
      have := hc (i + 1) h2
      omega
  · rw [← bt_ch]; have := hc 0 h.pos; omega
  · rw [← bt_ch]; have := hc 0 h.pos; omega

theorem WordF.nice {s : ByteArray} (h : WordF s) : Nice s := by
  refine ⟨h.pos, by have := h.len; omega, fun k hk => ?_, fun k hk h47 => ?_⟩
  · have := h.chars k hk
    unfold wdc at this; unfold wch; rw [this]; rfl
  · have := h.chars k (by omega)
    rw [h47] at this
    cases this

theorem cutFrom_spec (s : ByteArray) (c k : Nat) (h : 0 < k) (hc : bt s (k - 1) = c) : cutFrom s c k = k := by
  obtain ⟨n, rfl⟩ : ∃ n, k = n + 1 := ⟨k - 1, by omega⟩
  simp only [cutFrom]
  rw [if_pos (by simpa using hc)]
theorem cutOut_mono (s : ByteArray) (c : Nat) : ∀ j k, j ≤ k → ∀ v ∈ cutOut s c j, v ∈ cutOut s c k := by
  intro j k hjk
  induction k with
  | zero => obtain rfl : j = 0 := by omega
            exact fun v h => h
  | succ k ih =>
    rcases Nat.lt_or_ge j (k + 1) with h | h
    · intro v hv
      have := ih (by omega) v hv
      simp only [cutOut]; split
      · exact List.mem_append.2 (Or.inl this)
      · exact this
    · obtain rfl : j = k + 1 := by omega
      exact fun v h => h

theorem PathF.last {s : ByteArray} (h : PathF s) : ∃ n, s.size = n + 1 ∧ letB (bt s n) = true := by
  have hl := h.parts (.string (s.extract (cutFrom s 47 s.size) s.size)) (by simp [cutL])
  obtain ⟨p, n, hp, hn, _, hb⟩ := hl
  injection hp with hp
  have hle := cutFrom_le s 47 s.size
  have hsz : p.size = s.size - cutFrom s 47 s.size := by rw [← hp, ByteArray.size_extract]; omega
  refine ⟨s.size - 1, by omega, ?_⟩
  have hbt : bt p n = bt s (s.size - 1) := by
    rw [← hp, bt_ch, bt_ch]
    have e1 : bsl (s.extract (cutFrom s 47 s.size) s.size) = ((bsl s).drop (cutFrom s 47 s.size)).take (s.size - cutFrom s 47 s.size) := by
      cases s; simp [bsl, ByteArray.extract, ByteArray.copySlice, ByteArray.size]
    rw [e1]
    unfold ch
    rw [List.getD_eq_getElem?_getD, List.getD_eq_getElem?_getD, List.getElem?_take, if_pos (by omega), List.getElem?_drop]
    rw [show cutFrom s 47 s.size + n = s.size - 1 from by omega]
  rw [← hbt]; exact hb
theorem PathF.nice {s : ByteArray} (h : PathF s) : Nice s := by
  obtain ⟨n, hn, _⟩ := h.last
  refine ⟨by omega, by have := h.len; omega, fun k hk => ?_, fun k hk h1 h2 => ?_⟩
  · have := h.chars k hk
    simp only [pch, Bool.or_eq_true] at this
    simp only [wch, Bool.or_eq_true]
    rcases this with (h | h) | h
    · exact Or.inl (Or.inl (Or.inl h))
    · exact Or.inl (Or.inr h)
    · exact Or.inr h
  · have hm : Value.string (s.extract (k + 1) (k + 1)) ∈ cutOut s 47 (k + 1 + 1) := by
      simp only [cutOut]
      rw [if_pos h2]
      refine List.mem_append.2 (Or.inr ?_)
      rw [show cutFrom s 47 (k + 1) = k + 1 from by simp [cutFrom, h1]]
      simp
    obtain ⟨p, m, hp, hm', _⟩ := h.parts _ (List.mem_append.2 (Or.inl (cutOut_mono s 47 (k + 1 + 1) s.size (by omega) _ hm)))
    injection hp with hp
    rw [← hp, ByteArray.size_extract] at hm'
    omega

theorem PathF.noPre {s : ByteArray} (h : PathF s) : Lib.hasPrefix s.data.toList gopkg.data.toList = false := by
  have hp := h.pre
  have hl := bsl_len s
  rw [← Lib.hasPrefix_of_take]
  change (decide (9 ≤ (bsl s).length) && ((bsl s).take 9 == ([103, 111, 112, 107, 103, 46, 105, 110, 47] : List UInt8))) = false
  have e : (s.extract 0 9).toList = (bsl s).take 9 := by
    rw [Lib.toList_data]
    cases s; simp [bsl, ByteArray.extract, ByteArray.copySlice]
  rw [e] at hp
  rw [hl]
  revert hp
  cases decide (9 ≤ s.size) <;> cases ((bsl s).take 9 == ([103, 111, 112, 107, 103, 46, 105, 110, 47] : List UInt8)) <;> simp
end Go.Proofs.YtifkpibjeamfkaaGreatFmt
