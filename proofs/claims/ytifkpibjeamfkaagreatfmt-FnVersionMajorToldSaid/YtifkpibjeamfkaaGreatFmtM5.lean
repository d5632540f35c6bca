/- The law on versions of a major number of 2 or more. -/
import Derived.Test.YtifkpibjeamfkaaGreatFmtM4
import Derived.Test.YtifkpibjeamfkaaGreatFmtM1
import Derived.Test.YtifkpibjeamfkaaGreatFmtE5
set_option linter.unusedVariables false
namespace Go.Proofs.YtifkpibjeamfkaaGreatFmt
open Go.RowKit Go.Proofs
open Go.Extern.Stop Go.Stop Go.Extern

theorem bsl_extract (s : ByteArray) (a b : Nat) : bsl (s.extract a b) = ((bsl s).drop a).take (b - a) := by
  cases s; simp [bsl, ByteArray.extract, ByteArray.copySlice]
theorem bsl_inj {a b : ByteArray} (h : bsl a = bsl b) : a = b := by
  rw [← mkS_bsl a, ← mkS_bsl b, h]

def verS (d : List UInt8) : ByteArray := mkS (118 :: (d ++ [46, 48, 46, 48]))

theorem ver3_of (D : ByteArray) (h : DecF D) : Ver3 (verS (bsl D)) (mkS (bsl D ++ [46, 48, 46, 48])) (mkS [46, 48, 46, 48]) (mkS [48, 46, 48]) (mkS [46, 48]) (mkS [48]) D (mkS [48]) (mkS [48]) := by
  have hl := bsl_len D
  have h3 := h.len
  have h0 := h.pos
  have z48 : ∀ (l : List UInt8) (i : Nat), i < 1 → digB (bt (mkS (48 :: l)) i) = true := by
    intro l i hi
    obtain rfl : i = 0 := by omega
    rw [bt_ch]; rfl
  have P1 : PI (mkS (bsl D ++ [46, 48, 46, 48])) D (mkS [46, 48, 46, 48]) := by
    have hs : (mkS (bsl D ++ [46, 48, 46, 48])).size = D.size + 4 := by rw [mkS_size, List.length_append, hl]; rfl
    have := parseInt_any (mkS (bsl D ++ [46, 48, 46, 48])) D.size h0 (by omega) (fun i hi => by
        have := h.digs i hi
        rw [bt_ch] at this ⊢
        rw [show bsl (mkS (bsl D ++ [46, 48, 46, 48])) = bsl D ++ [46, 48, 46, 48] from rfl, ch_left _ _ _ (by omega)]
        exact this) (fun _ => by
        rw [bt_ch, show bsl (mkS (bsl D ++ [46, 48, 46, 48])) = bsl D ++ [46, 48, 46, 48] from rfl]
        have := ch_right (bsl D) [46, 48, 46, 48] 0
        rw [hl, Nat.add_zero] at this
        rw [this]; rfl) (Or.inl (by
        have := h.lead
        rw [bt_ch] at this ⊢
        rw [show bsl (mkS (bsl D ++ [46, 48, 46, 48])) = bsl D ++ [46, 48, 46, 48] from rfl, ch_left _ _ _ (by omega)]
        exact this)) (by omega)
    rw [hs] at this
    have e1 : (mkS (bsl D ++ [46, 48, 46, 48])).extract 0 D.size = D := by
      apply bsl_inj; rw [bsl_extract, show bsl (mkS (bsl D ++ [46, 48, 46, 48])) = bsl D ++ [46, 48, 46, 48] from rfl]; simp [← hl]
    have e2 : (mkS (bsl D ++ [46, 48, 46, 48])).extract D.size (D.size + 4) = mkS [46, 48, 46, 48] := by
      apply bsl_inj; rw [bsl_extract, show bsl (mkS (bsl D ++ [46, 48, 46, 48])) = bsl D ++ [46, 48, 46, 48] from rfl, bsl_mkS]; simp [← hl]
    rw [e1, e2] at this
    exact this
  have P2 : PI (mkS [48, 46, 48]) (mkS [48]) (mkS [46, 48]) := by
    have := parseInt_any (mkS [48, 46, 48]) 1 (by omega) (by decide) (z48 _) (fun _ => by rw [bt_ch]; rfl) (Or.inr rfl) (by decide)
    rw [show (mkS [48, 46, 48]).extract 0 1 = mkS [48] from by apply bsl_inj; rw [bsl_extract]; rfl, show (mkS [48, 46, 48]).extract 1 (mkS [48, 46, 48]).size = mkS [46, 48] from by apply bsl_inj; rw [bsl_extract]; rfl] at this
    exact this
  have P3 : PI (mkS [48]) (mkS [48]) ⟨#[]⟩ := by
    have := parseInt_any (mkS [48]) 1 (by omega) (by decide) (z48 _) (fun h => absurd h (by decide)) (Or.inr rfl) (by decide)
    rw [show (mkS [48]).extract 0 1 = mkS [48] from by apply bsl_inj; rw [bsl_extract]; rfl, show (mkS [48]).extract 1 (mkS [48]).size = ⟨#[]⟩ from by apply bsl_inj; rw [bsl_extract]; rfl] at this
    exact this
  have hsz : (verS (bsl D)).size = D.size + 5 := by unfold verS; rw [mkS_size]; simp [hl]
  refine ⟨by omega, by rw [bt_ch]; rfl, ?_, P1, by decide, by rw [bt_ch]; rfl, by apply bsl_inj; rw [bsl_extract]; rfl, P2, by decide, by rw [bt_ch]; rfl, by apply bsl_inj; rw [bsl_extract]; rfl, P3⟩
  apply bsl_inj
  rw [bsl_extract, hsz]
  simp only [verS, bsl_mkS, List.drop_succ_cons, List.drop_zero]
  exact List.take_of_length_le (by simp [hl])

theorem DecF.list {D : ByteArray} (h : DecF D) : ∃ c l, bsl D = c :: l ∧ c ≠ 48 ∧ (l = [] → c ≠ 49) := by
  have hl := bsl_len D
  have h0 := h.pos
  cases hb : bsl D with
  | nil => rw [hb] at hl; simp at hl; omega
  | cons c l =>
    refine ⟨c, l, rfl, ?_, ?_⟩
    · rintro rfl
      have := h.lead
      rw [bt_ch, hb] at this
      exact this rfl
    · rintro rfl rfl
      have := h.one (by rw [← hl, hb]; rfl)
      rw [bt_ch, hb] at this
      exact this rfl
theorem verS_nice (D : ByteArray) (h : DecF D) : Nice (verS (bsl D)) := by
  have hl := bsl_len D
  have h3 := h.len
  have hsz : (verS (bsl D)).size = D.size + 5 := by unfold verS; rw [mkS_size]; simp [hl]
  have key : ∀ k, k < (verS (bsl D)).size → wch (bt (verS (bsl D)) k) = true ∧ bt (verS (bsl D)) k ≠ 47 := by
    intro k hk
    rw [bt_ch]
    obtain ⟨c, hc, e⟩ := ch_mem (bsl (verS (bsl D))) k (by rw [bsl_len]; exact hk)
    rw [e]
    rw [show bsl (verS (bsl D)) = 118 :: (bsl D ++ [46, 48, 46, 48]) from rfl] at hc
    simp only [List.mem_cons, List.mem_append, List.not_mem_nil, or_false] at hc
    rcases hc with rfl | hc | rfl | rfl | rfl | rfl
    · decide
    · obtain ⟨i, hi, rfl⟩ := List.getElem_of_mem hc
      have hd := h.digs i (by omega)
      rw [bt_ch] at hd
      simp only [ch, List.getD_eq_getElem?_getD, List.getElem?_eq_getElem hi, Option.getD_some] at hd
      refine ⟨by unfold wch; rw [hd]; simp, ?_⟩
      intro h47; rw [h47] at hd; cases hd
    all_goals decide
  exact ⟨by omega, by omega, fun k hk => (key k hk).1, fun k hk h47 => absurd h47 (key k (by omega)).2⟩

def lineV2 : ByteArray := ⟨#[32, 118]⟩
theorem asc_major {p D : ByteArray} (hp : Nice p) (hD : DecF D) (hp1 : p.size ≤ 400000) : Asc (lineReq ++ p ++ ⟨#[32, 118]⟩ ++ D ++ ⟨#[46, 48, 46, 48, 10]⟩) (docTxt [[modB, [109]], [], [bsl reqB, bsl p, bsl (verS (bsl D))]]) := by
  have hv := verS_nice D hD
  have hv1 : (verS (bsl D)).size ≤ 400000 := by
    have hl := bsl_len D
    have h3 := hD.len
    unfold verS; rw [mkS_size]; simp [hl]; omega
  have h := asc_req hp hv hp1 hv1
  refine ⟨?_, h.ascii, h.len⟩
  rw [← h.eq]
  change bsl _ = bsl _
  simp only [bsl_append]
  rw [show bsl (verS (bsl D)) = 118 :: (bsl D ++ [46, 48, 46, 48]) from rfl]
  simp [bsl]

set_option maxRecDepth 100000 in
set_option maxHeartbeats 4000000 in
theorem law_major (Fi : Interp) (p : ByteArray) (n : Int) (w : World) (hFi : Fi.answers w.tape) (hpr : PrTab w) (hP : 0 < w.heap.size) : Calls Tryz.prog 5 #[.string p, .int .i64 n] w fun e w' => e = .returned (.bool true) ∧ Below w.heap.size w w' := by
  by_cases hsz : (2147483647 : Int) < (p.size : Int)
  · go_enter Tryz.func5, Tryz.ntmps5
    go_wp2_with fail
    go_ret
    exact ⟨rfl, Below.refl _ _⟩
  have HP := hide hpr
  have HF := hide hFi
  clear hpr hFi
  go_enter Tryz.func5, Tryz.ntmps5
  go_wp2_with fail
  refine (pathOk_any p w (by omega)).mono ?_
  rintro e w1 ⟨⟨b, rfl, hb⟩, hb1⟩
  have hpr1 : PrTab w1 := HP.out.keptT (N := w.heap.size) (S := fun _ => True) ⟨hb1, fun k cs t fz e hn => absurd True.intro hn⟩ hP
  have hP1 : 0 < w1.heap.size := Nat.lt_of_lt_of_le hP hb1.size
  have HP1 := hide hpr1
  have HB1 := hide hb1
  have HPF := hide hb
  clear hb1 hpr1 hb
  cases b with
  | false =>
    go_wp2_with fail
    go_fit (reads_any w1 HP1.out hP1)
    rintro e w2 ⟨rfl, hb2⟩
    have HB2 := hide (HB1.out.trans (hb2.mono HB1.out.size))
    clear hb2
    go_wp2_with fail
    go_ret
    exact ⟨rfl, HB2.out⟩
  | true =>
    have HPF2 := hide (HPF.out rfl)
    clear HPF
    by_cases h2 : n < 2
    · go_wp2_with fail
      go_fit (reads_any w1 HP1.out hP1)
      rintro e w2 ⟨rfl, hb2⟩
      have HB2 := hide (HB1.out.trans (hb2.mono HB1.out.size))
      clear hb2
      go_wp2_with fail
      go_ret
      exact ⟨rfl, HB2.out⟩
    by_cases h9 : (999 : Int) < n
    · go_wp2_with fail
      go_fit (reads_any w1 HP1.out hP1)
      rintro e w2 ⟨rfl, hb2⟩
      have HB2 := hide (HB1.out.trans (hb2.mono HB1.out.size))
      clear hb2
      go_wp2_with fail
      go_ret
      exact ⟨rfl, HB2.out⟩
    obtain ⟨m, rfl⟩ : ∃ m : Nat, n = (m : Int) := ⟨n.toNat, by omega⟩
    have hm2 : 2 ≤ m := by omega
    have hm9 : m ≤ 999 := by omega
    have d2 : decide ((m : Int) < 2) = false := decide_eq_false h2
    have d9 : decide ((999 : Int) < (m : Int)) = false := decide_eq_false h9
    clear h2 h9
    go_wp2_with fail
    go_fit (decimal_any m w1 hm2 hm9)
    rintro e w2 ⟨rfl, hb2⟩
    have HB2 := hide (HB1.out.trans (hb2.mono HB1.out.size))
    clear hb2
    have hD := decS_ok m hm2 hm9
    generalize decS m = D at hD ⊢
    have HD := hide hD
    clear hD
    have hpr2 : PrTab w2 := HP.out.keptT (N := w.heap.size) (S := fun _ => True) ⟨HB2.out, fun k cs t fz e hn => absurd True.intro hn⟩ hP
    have hP2 : 0 < w2.heap.size := Nat.lt_of_lt_of_le hP HB2.out.size
    have HP2 := hide hpr2
    clear hpr2
    have HBA : Hid (BadAdd w2 (mkS (bsl reqB)) (mkS (bsl p)) (mkS (bsl (verS (bsl D))))) := by
      refine hide ?_
      rw [mkS_bsl, mkS_bsl, mkS_bsl]
      obtain ⟨k, hk, hlk⟩ := HPF2.out.last
      have hdl := bsl_len D
      have hd3 := HD.out.len
      have hsz : (verS (bsl D)).size = D.size + 5 := by unfold verS; rw [mkS_size]; simp [hdl]
      obtain ⟨c, l, hcl, hc48, hc49⟩ := HD.out.list
      have hex : (verS (bsl D)).extract 0 (1 + D.size) = mkS (118 :: bsl D) := by
        apply bsl_inj
        rw [bsl_extract, bsl_mkS, show bsl (verS (bsl D)) = 118 :: (bsl D ++ [46, 48, 46, 48]) from rfl, ← hdl, Nat.sub_zero, Nat.add_comm]
        simp
      have hlst : ∀ x : ByteArray, x.toList = bsl x := fun x => Lib.toList_data x
      refine BadAdd.major Fi w2 p (verS (bsl D)) k (by rw [HB2.out.tape]; exact HF.out) HPF2.out.nice.plain (verS_nice D HD.out).plain hk (by have := HPF2.out.len; omega) (by simpa [letB] using hlk) HPF2.out.noPre _ _ _ _ _ D _ _ (ver3_of D HD.out) (by omega) (by omega) ?_ ?_ ?_
      · change Lib.hasPrefix (bsl (verS (bsl D))) [118, 48, 46, 48, 46, 48, 45] = false
        rw [show bsl (verS (bsl D)) = 118 :: (bsl D ++ [46, 48, 46, 48]) from rfl, hcl]
        simp [Lib.hasPrefix, List.isPrefixOf, Ne.symm hc48]
      · rw [hex, hlst, bsl_mkS, hcl]
        simp [hc48]
      · rw [hex, hlst, bsl_mkS, hcl]
        simp only [beq_eq_false_iff_ne, ne_eq, List.cons.injEq, true_and, not_and]
        exact fun h1 h2 => hc49 h2 h1
    have hla : p.size ≤ 400000 := by have := HPF2.out.len; omega
    have HI := hide (implParse_bad w2 _ [109] (bsl reqB) (bsl p) (bsl (verS (bsl D))) ⟨#[109]⟩ (asc_major HPF2.out.nice HD.out hla) nice_m.wd wd_req HPF2.out.nice.wd (verS_nice D HD.out).wd reads_m HBA.out HP2.out hP2)
    clear hla
    have hd3 : D.size ≤ 3 := HD.out.len
    go_wp2_with fail
    go_fit HI.out
    rintro e w3 ⟨rfl, hb3⟩
    have hb3' : Below w.heap.size w (w3.alloc (Obj.cells contentZ 28)) := (HB2.out.trans (hb3.mono HB2.out.size)).alloc (Nat.le_trans HB2.out.size hb3.size) _
    have HB3 := hide hb3'
    clear hb3 hb3'
    unfold contentZ at HB3
    unfold contentV
    go_wp2_with fail
    generalize w3.alloc (Obj.cells #[.string ⟨#[]⟩, .string ⟨#[]⟩, .string ⟨#[]⟩, .slice none 0 0, .slice none 0 0, .slice none 0 0, .slice none 0 0, .slice none 0 0, .slice none 0 0] 28) = W3 at HB3 ⊢
    have hpr3 : PrTab W3 := HP.out.keptT (N := w.heap.size) (S := fun _ => True) ⟨HB3.out, fun k cs t fz e hn => absurd True.intro hn⟩ hP
    have HP3 := hide hpr3
    have hP3 : 0 < W3.heap.size := Nat.lt_of_lt_of_le hP HB3.out.size
    clear hpr3
    go_fit (reads_any W3 HP3.out hP3)
    rintro e w5 ⟨rfl, hb5⟩
    have HB5 := hide (HB3.out.trans (hb5.mono HB3.out.size))
    clear hb5
    go_wp2_with fail
    go_ret
    exact ⟨rfl, HB5.out⟩
end Go.Proofs.YtifkpibjeamfkaaGreatFmt
