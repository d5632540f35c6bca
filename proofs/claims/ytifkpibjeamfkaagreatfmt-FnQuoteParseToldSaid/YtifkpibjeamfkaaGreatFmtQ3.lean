/- strconv.Quote, AutoQuote, spec.Printable. -/
import Derived.Test.YtifkpibjeamfkaaGreatFmtQ2
import Derived.Test.YtifkpibjeamfkaaGreatFmtL4
import Derived.Test.YtifkpibjeamfkaaGreatFmtC12
set_option linter.unusedVariables false
namespace Go.Proofs.YtifkpibjeamfkaaGreatFmt
open Go.RowKit Go.Proofs

theorem bsl_mk (l : List UInt8) : bsl (mkS l) = l := rfl

/-- Bytes of the call's own become a text. -/
theorem conv_own {N g cap n : Nat} {l : List UInt8} {w : World} (h : w.ownsRow N 5 1 (.slice (some ⟨g, 0, none⟩) n cap) n (u8s l)) (hl : l.length = n) :
    (convert 69 9 (.slice (some ⟨g, 0, none⟩) n cap)).run Tryz.prog w = .ok (.string (mkS l)) w := by
  have hc := run_convert_bytes_arg (P := Tryz.prog) w 69 5 (by kernel_rfl) (by kernel_rfl) g 0 n cap (l.map fun c => (c.toNat : Int)) (by simpa using hl) (fun i hi => by
    have := World.ownsRow.cellAt h i (by omega)
    rw [Nat.zero_add, this]
    rw [List.getD_eq_getElem?_getD, List.getElem?_map, u8s, List.getElem?_map]
    have hil : i < l.length := by omega
    simp [List.getElem?_eq_getElem hil]) 9 (by kernel_rfl)
  rw [strOfNums_mk] at hc
  exact hc

set_option maxRecDepth 100000 in
set_option maxHeartbeats 4000000 in
theorem quoteWith_any (s : ByteArray) (w : World) (hp : Pr (bsl s)) (hs : s.size ≤ 10000) :
    Calls Tryz.prog 56 #[.string s, .int .u8 34, .bool false, .bool false] w fun e w' => e = .returned (.string (mkS (quoteL (bsl s)))) ∧ Below w.heap.size w w' := by
  obtain ⟨i0, hi0, hz0, hz1, hz2⟩ := info_parts Tryz.infoU8
  obtain ⟨c, hc⟩ : ∃ c, c = 3 * s.size / 2 := ⟨_, rfl⟩
  have hcI : 3 * (s.size : Int) / 2 = (c : Int) := by omega
  have hcT : (3 * (s.size : Int)).tdiv 2 = (c : Int) := by rw [Int.tdiv_eq_ediv_of_nonneg (by omega)]; exact hcI
  have hc1 : s.size ≤ c := by omega
  have hc2 : c ≤ 1000000 := by omega
  have HP := hide hp
  have H := hide (fun (w1 : World) (hown : w1.ownsRow w.heap.size 5 1 (.slice (some ⟨w.heap.size, 0, none⟩) 0 c) 0 []) (hN : w.heap.size ≤ w1.heap.size) => appendQuoted w.heap.size w.heap.size c s w1 hp hc1 hc2 hs hown hN)
  clear hp hc
  go_enter Tryz.func56, Tryz.ntmps56
  go_wp2_with (first
    | (at_make; refine wpList_make_own _ rfl _ _ 69 rfl w.heap.size 5 i0 (.int .u8 0) 1 Tryz.und_u8s hi0 hz0 hz1 _ _ _ c rfl rfl (by first | rfl | assumption) (by rw [hz2]; omega) (by unfold maxLen; omega) (Nat.le_refl _) ?_; intro w1 hown hg; have HO := hide hown; have hb1 : Below w.heap.size w w1 := (Below.refl _ w).grown hg (Nat.le_refl _) (by intro k hk; cases hk); have HB1 := hide hb1; clear hown hg hb1))
  go_fit (H.out w1 HO.out HB1.out.size)
  rintro e w2 ⟨g, cap, rfl, ho2, hb2⟩
  have hcv := conv_own (n := (([] : List UInt8).length + (quoteL (bsl s)).length)) (l := quoteL (bsl s)) ho2 (by simp)
  have HB2 := hide (HB1.out.trans hb2)
  clear ho2 hb2
  go_wp2_with fail
  first | rw [hcv] | (simp only [List.length_nil, Nat.zero_add] at hcv ⊢; rw [hcv])
  go_wp2_with fail
  go_ret
  exact ⟨rfl, HB2.out⟩

theorem quote_any (s : ByteArray) (w : World) (hp : Pr (bsl s)) (hs : s.size ≤ 10000) :
    Calls Tryz.prog 48 #[.string s] w fun e w' => e = .returned (.string (mkS (quoteL (bsl s)))) ∧ Below w.heap.size w w' := by
  have H := hide (quoteWith_any s w hp hs)
  clear hp
  go_enter Tryz.func48, Tryz.ntmps48
  go_wp2_with fail
  go_fit H.out
  rintro e w1 ⟨rfl, hb⟩
  have HB := hide hb
  clear hb
  go_wp2_with fail
  go_ret
  exact ⟨rfl, HB.out⟩

/-- What AutoQuote makes of a text of printed signs. -/
def autoS (s : ByteArray) : ByteArray := if mqB s = true then mkS (quoteL (bsl s)) else s
theorem Pr.at {s : ByteArray} (h : Pr (bsl s)) (k : Nat) (hk : k < s.size) : 32 ≤ bt s k ∧ bt s k ≤ 126 := by
  rw [bt_ch]
  obtain ⟨c, hc, e⟩ := ch_mem (bsl s) k (by rw [bsl_len]; exact hk)
  rw [e]; exact h c hc

theorem autoQuote_any (s : ByteArray) (w : World) (hp : Pr (bsl s)) (hs : s.size ≤ 10000) (hpr : PrTab w) (hP : 0 < w.heap.size) :
    Calls Tryz.prog 39 #[.string s] w fun e w' => e = .returned (.string (autoS s)) ∧ Below w.heap.size w w' := by
  have HPP := hide hp
  have HP := hide hpr
  clear hp hpr
  cases hq : mqB s with
  | false =>
    have ha : autoS s = s := by unfold autoS; rw [hq]; rfl
    rw [ha]
    exact autoQuote_plain s w (fun k hk => HPP.out.at k hk) (by omega) hq HP.out hP
  | true =>
    have ha : autoS s = mkS (quoteL (bsl s)) := by unfold autoS; rw [hq]; rfl
    rw [ha]
    have HQ := hide hq
    clear hq ha
    go_enter Tryz.func39, Tryz.ntmps39
    go_wp2_with fail
    refine (mustQuote_any s w (fun k hk => HPP.out.at k hk) (by omega) HP.out hP).mono ?_
    rw [HQ.out]
    rintro e w1 ⟨rfl, hb⟩
    have HB := hide hb
    clear hb
    go_wp2_with fail
    go_fit (quote_any s w1 HPP.out hs)
    rintro e w2 ⟨rfl, hb⟩
    have HB2 := hide (HB.out.trans (hb.mono HB.out.size))
    clear hb
    go_wp2_with fail
    go_ret
    exact ⟨rfl, HB2.out⟩

theorem implAutoQuote_any (s : ByteArray) (w : World) (hp : Pr (bsl s)) (hs : s.size ≤ 10000) (hpr : PrTab w) (hP : 0 < w.heap.size) :
    Calls Tryz.prog 18 #[.string s] w fun e w' => e = .returned (.string (autoS s)) ∧ Below w.heap.size w w' := by
  have H := hide (autoQuote_any s w hp hs hpr hP)
  clear hp hpr
  go_enter Tryz.func18, Tryz.ntmps18
  go_wp2_with fail
  go_fit H.out
  rintro e w1 ⟨rfl, hb⟩
  have HB := hide hb
  clear hb
  go_wp2_with fail
  go_ret
  exact ⟨rfl, HB.out⟩

def SaysPr (s : ByteArray) (w : World) (e : Ending) (w' : World) : Prop := (∃ b, e = .returned (.bool b) ∧ (b = true → Pr (bsl s))) ∧ w' = w

set_option maxHeartbeats 1000000 in
theorem printable_any (s : ByteArray) (w : World) (hs : s.size ≤ 2147483647) : Calls Tryz.prog 16 #[.string s] w (SaysPr s w) := by
  go_enter Tryz.func16, Tryz.ntmps16
  go_wp2_with fail
  go_loopg [3] (s.size + 1) (fun k v3 wr => wr = w ∧ ∃ j : Nat, j + k = s.size + 1 ∧ v3 = .int .i64 (j : Int) ∧ Hid (∀ i, i < j → 32 ≤ bt s i ∧ bt s i ≤ 126))
  case atStart => exact ⟨rfl, 0, by omega, rfl, hide (fun i h => by omega)⟩
  case round =>
    obtain ⟨rfl, j, hj, rfl, HN⟩ := hrel
    rcases Nat.lt_or_ge j s.size with hlt | hge
    · have h0 : (j : Int) < (s.size : Int) := by omega
      have hget : (s[j]'hlt).toNat = bt s j := bt_get s j hlt
      have hwr : IntKind.i64.wrap ((j : Int) + 1) = (j : Int) + 1 := Go.IntWalk.i64_in _ (by omega)
      by_cases h1 : bt s j < 32
      · have g1 : (bt s j : Int) < 32 := by omega
        go_wp2_with fail
        go_ret
        exact ⟨⟨false, rfl, by intro h; cases h⟩, rfl⟩
      · have g1 : ¬ (bt s j : Int) < 32 := by omega
        by_cases h2 : 126 < bt s j
        · have g2 : (126 : Int) < (bt s j : Int) := by omega
          go_wp2_with fail
          go_ret
          exact ⟨⟨false, rfl, by intro h; cases h⟩, rfl⟩
        · have g2 : ¬ (126 : Int) < (bt s j : Int) := by omega
          go_wp2_with fail
          go_roundg (s.size + 1 - (j + 1))
          case measure => omega
          case rel =>
            refine ⟨rfl, j + 1, by omega, by simp, hide (fun i hi => ?_)⟩
            rcases Nat.lt_or_ge i j with h3 | h3
            · exact HN.out i h3
            · obtain rfl : i = j := by omega
              omega
    · have h0 : ¬ (j : Int) < (s.size : Int) := by omega
      have HPr := hide (show Pr (bsl s) from fun c hc => by
        obtain ⟨i, hi, e⟩ := List.getElem_of_mem hc
        have := HN.out i (by rw [bsl_len] at hi; omega)
        rw [bt_ch] at this
        unfold ch at this
        rw [List.getD_eq_getElem?_getD, List.getElem?_eq_getElem hi] at this
        simpa [e] using this)
      go_wp2_with fail
      go_ret
      exact ⟨⟨true, rfl, fun _ => HPr.out⟩, rfl⟩
end Go.Proofs.YtifkpibjeamfkaaGreatFmt
