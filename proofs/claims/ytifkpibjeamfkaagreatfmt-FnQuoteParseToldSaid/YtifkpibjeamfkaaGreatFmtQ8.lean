/- strconv.Unquote, parseString at what AutoQuote writes; a text that AutoQuote leaves as it is, is one word; the law FnQuoteParse. -/
import Derived.Test.YtifkpibjeamfkaaGreatFmtQ7
import Derived.Test.YtifkpibjeamfkaaGreatFmtC11
import Derived.Test.YtifkpibjeamfkaaGreatFmtE5
set_option linter.unusedVariables false
namespace Go.Proofs.YtifkpibjeamfkaaGreatFmt
open Go.RowKit Go.Proofs

theorem unquote_any (l : List UInt8) (w : World) (hp : Pr l) (hl : l.length ≤ 10000) :
    Calls Tryz.prog 138 #[.string (mkS (quoteL l)), .bool true] w (Unq l w) := by
  rcases esc_cases l with h | ⟨pre, c, post, h1, h2, h3⟩
  · exact unquote_plain l w hp hl h
  · obtain ⟨e, hc, h92⟩ := cut_esc l pre post c h1 h2 h3
    exact unquote_esc l w hp hl e hc h92

set_option maxRecDepth 100000 in
theorem unquoteS (l : List UInt8) (w : World) (hp : Pr l) (hl : l.length ≤ 10000) :
    Calls Tryz.prog 106 #[.string (mkS (quoteL l))] w fun e w' => e = .returned (.tuple #[.string (mkS l), .nilIface]) ∧ Below w.heap.size w w' := by
  have H := hide (unquote_any l w hp hl)
  clear hp
  go_enter Tryz.func106, Tryz.ntmps106
  go_wp2_with fail
  go_fit H.out
  rintro e w1 ⟨rfl, hb⟩
  have HB := hide hb
  clear hb
  go_wp2_with fail
  go_returns
  exact ⟨rfl, HB.out⟩

set_option maxRecDepth 100000 in
set_option maxHeartbeats 1000000 in
theorem parseString_quoted (R i : Nat) (cur : Array Value) (s : ByteArray) (w : World) (hR : Blk w R 9 cur) (hi : cur[i]? = some (.string (mkS (quoteL (bsl s))))) (hp : Pr (bsl s))
    (hl : s.size ≤ 10000) (hq : mqB s = true) (hpr : PrTab w) (hP : 0 < w.heap.size) :
    Calls Tryz.prog 71 #[.pointer (some ⟨R, i, none⟩)] w fun e w' => e = .returned (.tuple #[.string s, .nilIface]) ∧ Below w.heap.size w w' := by
  have hau : autoS s = mkS (quoteL (bsl s)) := by unfold autoS; rw [hq]; rfl
  have hpre : Lib.hasPrefix (mkS (quoteL (bsl s))).data.toList (⟨#[34]⟩ : ByteArray).data.toList = true := by
    change Lib.hasPrefix (bsl (mkS (quoteL (bsl s)))) [34] = true
    rw [bsl_mk]
    simp [quoteL, Lib.hasPrefix, List.isPrefixOf]
  have hU := hide (fun W => unquoteS (bsl s) W hp (by rw [bsl_len]; exact hl))
  have hA := hide (fun W h1 h2 => autoQuote_any s W hp hl h1 h2)
  rw [hau] at hA
  obtain ⟨S, hS⟩ : ∃ S, mkS (quoteL (bsl s)) = S := ⟨_, rfl⟩
  rw [mkS_bsl] at hU
  rw [hS] at hi hpre hU hA
  have h0 : w.cell? ⟨R, i, none⟩ = some (.string S) := hR.cell i hi
  have HR := hide hR
  have HP := hide hpr
  have HI := hide hi
  have HF := hide hpre
  clear hR hpr hi hq hp hau hS hpre
  go_enter Tryz.func71, Tryz.ntmps71
  go_wp2_with fail
  refine (hasPrefix_any S _ w).mono ?_
  rintro e w1 ⟨rfl, rfl⟩
  rw [HF.out]
  go_wp2_with fail
  go_fit (hU.out w)
  rintro e w2 ⟨rfl, hb2⟩
  have HB2 := hide hb2
  have hP2 : 0 < w2.heap.size := Nat.lt_of_lt_of_le hP hb2.size
  clear hb2
  go_wp2_with fail
  go_fit (hA.out w2 (HP.out.keptT (N := w.heap.size) (S := fun _ => True) ⟨HB2.out, fun k cs t fz e hn => absurd True.intro hn⟩ hP) hP2)
  rintro e w3 ⟨rfl, hb3⟩
  have hb13 : Below w.heap.size w w3 := HB2.out.trans (hb3.mono HB2.out.size)
  have hR3 := HR.out.kept (Kp.of_below (X := fun _ => False) hb13) (fun h => h)
  have c3 : w3.cell? ⟨R, i, none⟩ = some (.string S) := hR3.cell i HI.out
  have f3 : w3.frozen? ⟨R, i, none⟩ = false := hR3.free i
  have s3 : w3.setCell ⟨R, i, none⟩ (.string S) = w3 := hR3.set_id HI.out
  have HB3 := hide hb13
  clear hb13 hR3 hb3
  go_wp2_with fail
  go_returns
  exact ⟨rfl, HB3.out⟩

theorem Reads1.quoted {R i : Nat} {cur : Array Value} {s : ByteArray} (hp : Pr (bsl s)) (hl : s.size ≤ 10000) (hq : mqB s = true) (hi : cur[i]? = some (.string (mkS (quoteL (bsl s))))) : Reads1 R i cur s :=
  fun W hR hpr hP => parseString_quoted R i cur s W hR hi hp hl hq hpr hP

theorem ch_at (A B : List UInt8) (c : UInt8) : ch (A ++ (c :: B)) A.length = c.toNat := by
  unfold ch
  rw [List.getD_eq_getElem?_getD, List.getElem?_append_right (Nat.le_refl _)]
  simp

theorem strB_esc (l : List UInt8) : ∀ pre : List UInt8, Pr l → StrB (pre ++ (escL l ++ [34])) pre.length (pre ++ (escL l ++ [34])).length := by
  induction l with
  | nil =>
    intro pre _
    have h := StrB.fin (T := pre ++ (escL [] ++ [34])) pre.length (by simp) (by rw [show escL [] ++ [34] = [34] from rfl, ch_at]; rfl)
    have e : (pre ++ (escL [] ++ [34])).length = pre.length + 1 := by simp [escL]
    rw [e]; exact h
  | cons c l ih =>
    intro pre hp
    have hpl : Pr l := fun x hx => hp x (by simp [hx])
    have hpc := hp c (by simp)
    by_cases hc : c = 34 ∨ c = 92
    · have e : pre ++ (escL (c :: l) ++ [34]) = (pre ++ [92, c]) ++ (escL l ++ [34]) := by rw [escL_cons, escC_esc c hc]; simp
      have h := ih (pre ++ [92, c]) hpl
      rw [← e] at h
      refine StrB.esc _ _ (by rw [e]; simp) ?_ ?_
      · rw [e, List.append_assoc]; exact ch_at pre _ 92
      · have e2 : (pre ++ [92, c]).length = pre.length + 2 := by simp
        rw [e2] at h; exact h
    · have e : pre ++ (escL (c :: l) ++ [34]) = (pre ++ [c]) ++ (escL l ++ [34]) := by rw [escL_cons, escC_plain c hc]; simp
      have h := ih (pre ++ [c]) hpl
      rw [← e] at h
      have hch : ch (pre ++ (escL (c :: l) ++ [34])) pre.length = c.toNat := by rw [e, List.append_assoc]; exact ch_at pre _ c
      have n1 : c.toNat ≠ 34 := fun h => hc (Or.inl (UInt8.toNat_inj.1 (by rw [h]; rfl)))
      have n2 : c.toNat ≠ 92 := fun h => hc (Or.inr (UInt8.toNat_inj.1 (by rw [h]; rfl)))
      refine StrB.chr _ _ (by rw [e]; simp) (by omega) (by omega) (by omega) ?_
      have e2 : (pre ++ [c]).length = pre.length + 1 := by simp
      rw [e2] at h; exact h

theorem strW_quote (l : List UInt8) (hp : Pr l) : StrW (quoteL l) :=
  ⟨rfl, strB_esc l [34] hp⟩

theorem two_at (l : List UInt8) (k : Nat) (h : k + 1 < l.length) : (l.drop k).take 2 = [UInt8.ofNat (ch l k), UInt8.ofNat (ch l (k + 1))] := by
  rw [List.drop_eq_getElem_cons (by omega), List.drop_eq_getElem_cons h, List.take_succ_cons, List.take_succ_cons, List.take_zero]
  simp [ch, List.getD_eq_getElem?_getD, List.getElem?_eq_getElem h, List.getElem?_eq_getElem (show k < l.length by omega)]

theorem atB_two (s p : ByteArray) (k : Nat) (a b : UInt8) (hp : bsl p = [a, b]) (hk : k + 1 < s.size) (h1 : ch (bsl s) k = a.toNat) (h2 : ch (bsl s) (k + 1) = b.toNat) : atB s p k = true := by
  have hl := bsl_len s
  have hps : p.size = 2 := by rw [← bsl_len, hp]; rfl
  unfold atB
  rw [hps]
  simp only [Bool.and_eq_true, decide_eq_true_eq, beq_iff_eq]
  refine ⟨by omega, ?_⟩
  rw [Lib.toList_data, Lib.toList_data]
  change bsl (s.extract k (k + 2)) = bsl p
  rw [bsl_ext, hp, show k + 2 - k = 2 from by omega, two_at _ _ (by omega), h1, h2]
  simp

theorem mqB_parts {s : ByteArray} (h : mqB s = false) : (∀ k, k < s.size → mqAt s k = false) ∧ 0 < s.size ∧ standsB s s2 = false ∧ standsB s s3 = false := by
  unfold mqB at h
  simp only [Bool.or_eq_false_iff] at h
  obtain ⟨⟨⟨h1, h2⟩, h3⟩, h4⟩ := h
  rw [List.any_eq_false] at h1
  simp only [beq_eq_false_iff_ne] at h2
  exact ⟨fun k hk => by simpa using h1 k (by simpa using hk), by omega, h3, h4⟩
theorem mqAt_parts {s : ByteArray} {k : Nat} (h : mqAt s k = false) : bt s k ≠ 32 ∧ bt s k ≠ 34 ∧ bt s k ≠ 39 ∧ bt s k ≠ 96 ∧ (1 < s.size → bt s k ≠ 40 ∧ bt s k ≠ 41 ∧ bt s k ≠ 91 ∧ bt s k ≠ 93 ∧ bt s k ≠ 123 ∧ bt s k ≠ 125 ∧ bt s k ≠ 44) := by
  unfold mqAt qCh brCh at h
  simp only [Bool.or_eq_false_iff, Bool.and_eq_false_iff, beq_eq_false_iff_ne, decide_eq_false_iff_not] at h
  omega
theorem stands_not {s p : ByteArray} (h : standsB s p = false) (k : Nat) (hk : k < s.size + 1) : atB s p k = false := by
  unfold standsB at h
  rw [List.any_eq_false] at h
  simpa using h k (by simpa using hk)

theorem plain_of {s : ByteArray} (hp : Pr (bsl s)) (hl : s.size ≤ 10000) (hq : mqB s = false) : Plain s := by
  obtain ⟨h1, h0, h2, h3⟩ := mqB_parts hq
  refine ⟨fun k hk => ?_, ?_, by omega, hq⟩
  · have := mqAt_parts (h1 k hk)
    have := hp.at k hk
    omega
  · have h4 := (mqAt_parts (h1 0 h0)).2.1
    rw [bt_ch] at h4
    have hlen := bsl_len s
    change Lib.hasPrefix (bsl s) [34] = false
    cases hb : bsl s with
    | nil => rw [hb] at hlen; simp at hlen; omega
    | cons a l =>
      rw [hb] at h4
      have ha : a ≠ 34 := by
        rintro rfl
        exact h4 rfl
      simp [Lib.hasPrefix, List.isPrefixOf, Ne.symm ha]

theorem idW_of {s : ByteArray} (hp : Pr (bsl s)) (hq : mqB s = false) (h1 : s.size = 1 → mqB (s ++ s) = false) : IdW (bsl s) := by
  obtain ⟨m1, h0, m2, m3⟩ := mqB_parts hq
  have hlen := bsl_len s
  refine ⟨by omega, fun i hi => ⟨?_, ?_, ?_⟩, ?_, ?_⟩
  · rw [hlen] at hi
    have h5 := mqAt_parts (m1 i hi)
    have h6 := hp.at i hi
    rw [← bt_ch]
    have h7 : bt s i ≠ 40 ∧ bt s i ≠ 41 ∧ bt s i ≠ 91 ∧ bt s i ≠ 93 ∧ bt s i ≠ 123 ∧ bt s i ≠ 125 ∧ bt s i ≠ 44 := by
      rcases Nat.lt_or_ge 1 s.size with h | h
      · exact h5.2.2.2.2 h
      · have hs1 : s.size = 1 := by omega
        obtain rfl : i = 0 := by omega
        have e2 : (s ++ s).size = 2 := by rw [ByteArray.size_append]; omega
        have h8 := (mqAt_parts ((mqB_parts (h1 hs1)).1 0 (by omega))).2.2.2.2 (by omega)
        have e3 : bt (s ++ s) 0 = bt s 0 := by
          rw [bt_ch, bt_ch, bsl_append, ch_left _ _ _ (by omega)]
        rw [e3] at h8
        exact h8
    simp only [idB, decide_eq_true_eq]
    omega
  · rintro ⟨a1, a2, a3⟩
    have := stands_not m2 i (by omega)
    rw [atB_two s s2 i 47 47 rfl (by omega) a2 a3] at this
    cases this
  · rintro ⟨a1, a2, a3⟩
    have := stands_not m3 i (by omega)
    rw [atB_two s s3 i 47 42 rfl (by omega) a2 a3] at this
    cases this
  · have h5 := mqAt_parts (m1 0 h0); rw [bt_ch] at h5; omega
  · have h5 := mqAt_parts (m1 0 h0); rw [bt_ch] at h5; omega

/-- The word that AutoQuote writes. -/
theorem auto_word {s : ByteArray} (hp : Pr (bsl s)) (hl : s.size ≤ 10000) (h1 : s.size = 1 → mqB (s ++ s) = false) :
    Wd (bsl (autoS s)) ∧ (∀ (R : Nat) (cur : Array Value), cur[1]? = some (.string (mkS (bsl (autoS s)))) → Reads1 R 1 cur s) ∧ (∀ c ∈ bsl (autoS s), c.toNat < 128) ∧ (autoS s).size ≤ 20002 := by
  cases hq : mqB s with
  | false =>
    have ha : autoS s = s := by unfold autoS; rw [hq]; rfl
    rw [ha]
    refine ⟨Or.inl (idW_of hp hq h1), fun R cur h => Reads1.plain (plain_of hp hl hq) (by rw [mkS_bsl] at h; exact h), fun c hc => ?_, by omega⟩
    have := hp c hc; omega
  | true =>
    have ha : autoS s = mkS (quoteL (bsl s)) := by unfold autoS; rw [hq]; rfl
    rw [ha, bsl_mk]
    have hel := escL_len (bsl s)
    rw [bsl_len] at hel
    refine ⟨Or.inr (strW_quote _ hp), fun R cur h => Reads1.quoted hp hl hq h, fun c hc => ?_, by rw [mkS_size, quoteL_len]; omega⟩
    unfold quoteL at hc
    rcases List.mem_cons.1 hc with rfl | hc
    · decide
    rcases List.mem_append.1 hc with hc | hc
    · unfold escL at hc
      rw [List.mem_flatMap] at hc
      obtain ⟨d, hd, hc⟩ := hc
      have := hp d hd
      by_cases h : d = 34 ∨ d = 92
      · rw [escC_esc d h] at hc
        rcases List.mem_cons.1 hc with rfl | hc
        · decide
        · rw [List.mem_singleton] at hc; subst hc; omega
      · rw [escC_plain d h, List.mem_singleton] at hc
        subst hc; omega
    · rw [List.mem_singleton] at hc; subst hc; decide

def modS : ByteArray := ⟨#[109, 111, 100, 117, 108, 101, 32]⟩
def nlS : ByteArray := ⟨#[10]⟩
theorem asc_mod {u : ByteArray} (h : ∀ c ∈ bsl u, c.toNat < 128) (hl : u.size ≤ 20002) : Asc (modS ++ u ++ nlS) (docTxt [[modB, bsl u]]) := by
  have l1 := bsl_len u
  refine Asc.of ?_ ?_ ?_
  · simp only [bsl_append]
    simp [docTxt, lineTxt, modB, bsl, modS, nlS]
  · intro c hc
    simp only [docTxt, lineTxt, List.mem_append, List.mem_cons, List.not_mem_nil, or_false, List.append_nil] at hc
    have hm : ∀ c ∈ modB, c.toNat < 128 := by decide
    have h1 : ∀ c : UInt8, c = 10 ∨ c = 32 → c.toNat < 128 := by rintro c (rfl | rfl) <;> decide
    rcases hc with h2 | h2 | h2 | h2
    all_goals first | exact hm c h2 | exact h c h2 | exact h1 c (Or.inl h2) | exact h1 c (Or.inr h2)
  · simp [docTxt, lineTxt, l1, modB]; omega
/-- Where a text of two signs must be quoted, what AutoQuote writes is another text. -/
theorem auto_ne {s : ByteArray} (h : mqB s = true) : (autoS s).toList ≠ s.toList := by
  intro he
  rw [Lib.toList_data, Lib.toList_data] at he
  have ha : autoS s = mkS (quoteL (bsl s)) := by unfold autoS; rw [h]; rfl
  rw [ha] at he
  change quoteL (bsl s) = bsl s at he
  have h1 := congrArg List.length he
  rw [quoteL_len] at h1
  have h2 : (bsl s).length ≤ (escL (bsl s)).length := by
    generalize bsl s = l
    induction l with
    | nil => simp
    | cons c l ih =>
      rw [escL_cons, List.length_append, List.length_cons]
      have : 1 ≤ (escC c).length := by unfold escC; split <;> simp
      omega
  omega

def arrow : ByteArray := ⟨#[61, 62]⟩
theorem pr_two {s : ByteArray} (h : Pr (bsl s)) : Pr (bsl (s ++ s)) := by
  intro c hc
  rw [bsl_append] at hc
  rcases List.mem_append.1 hc with hc | hc <;> exact h c hc

set_option maxRecDepth 100000 in
set_option maxHeartbeats 4000000 in
/-- What is left of the law once the text may be asked. -/
theorem law_quote (s : ByteArray) (w : World) (hpr : PrTab w) (hP : 0 < w.heap.size) : Calls Tryz.prog 6 #[.string s] w fun e w' => e = .returned (.bool true) ∧ Below w.heap.size w w' := by
  by_cases hsz : (2147483647 : Int) < (s.size : Int)
  · go_enter Tryz.func6, Tryz.ntmps6
    go_wp2_with fail
    go_ret
    exact ⟨rfl, Below.refl _ _⟩
  have HP := hide hpr
  have HR := hide (reads_any w hpr hP)
  clear hpr
  go_enter Tryz.func6, Tryz.ntmps6
  go_wp2_with fail
  refine (printable_any s w (by omega)).mono ?_
  rintro e w1 ⟨⟨b, rfl, hb⟩, rfl⟩
  have HPR := hide hb
  clear hb
  cases b with
  | false =>
    go_wp2_with fail
    go_fit HR.out
    rintro e w2 ⟨rfl, hb2⟩
    have HB2 := hide hb2
    clear hb2
    go_wp2_with fail
    go_ret
    exact ⟨rfl, HB2.out⟩
  | true =>
    have hp := HPR.out rfl
    clear HPR
    have HPP := hide hp
    clear hp
    rcases Nat.eq_zero_or_pos s.size with h0 | h0
    · have he : s.toList.isEmpty = true := empty_of_size h0
      go_wp2_with fail
      go_fit HR.out
      rintro e w2 ⟨rfl, hb2⟩
      have HB2 := hide hb2
      clear hb2
      go_wp2_with fail
      go_ret
      exact ⟨rfl, HB2.out⟩
    have he : s.toList.isEmpty = false := full_of_size (n := s.size - 1) (by omega)
    by_cases h1000 : (1000 : Int) < (s.size : Int)
    · go_wp2_with fail
      go_fit HR.out
      rintro e w2 ⟨rfl, hb2⟩
      have HB2 := hide hb2
      clear hb2
      go_wp2_with fail
      go_ret
      exact ⟨rfl, HB2.out⟩
    have hl : s.size ≤ 10000 := by omega
    have HST := hide (fun W => stands_any s arrow W (by omega) (by decide))
    unfold arrow at HST
    go_wp2_with fail
    go_fit (HST.out w1)
    rintro e w2 ⟨rfl, rfl⟩
    cases hst : standsB s ⟨#[61, 62]⟩ with
    | true =>
      go_wp2_with fail
      go_fit HR.out
      rintro e w3 ⟨rfl, hb3⟩
      have HB3 := hide hb3
      clear hb3
      go_wp2_with fail
      go_ret
      exact ⟨rfl, HB3.out⟩
    | false =>
      have hc : s.size ≠ 1 ∨ (s.size = 1 ∧ mqB (s ++ s) = false) ∨ (s.size = 1 ∧ mqB (s ++ s) = true) := by
        by_cases h : s.size = 1
        · cases hm : mqB (s ++ s)
          · exact Or.inr (Or.inl ⟨h, rfl⟩)
          · exact Or.inr (Or.inr ⟨h, rfl⟩)
        · exact Or.inl h
      rcases hc with h1 | ⟨h1, hm⟩ | ⟨h1, hm⟩
      · have g1 : ((s.size : Int) == 1) = false := by simp only [beq_eq_false_iff_ne]; omega
        have hw := auto_word HPP.out hl (fun h => absurd h h1)
        obtain ⟨u, hu⟩ : ∃ u, autoS s = u := ⟨_, rfl⟩
        have hA := fun (W : World) h1 h2 => implAutoQuote_any s W HPP.out hl h1 h2
        rw [hu] at hw hA
        have hus := hw.2.2.2
        have HA := hide hA
        have HI := hide (fun W h1 h2 => implParse_ok W _ (bsl u) s (asc_mod hw.2.2.1 hus) hw.1 hw.2.1 h1 h2)
        unfold modS nlS at HI
        clear hw hA hu
        clear h1
        go_wp2_with fail
        go_fit (HA.out w2 HP.out hP)
        rintro e w4 ⟨rfl, hb4⟩
        have HB4 := hide ((Below.refl w2.heap.size w2).trans (hb4.mono (Below.refl w2.heap.size w2).size))
        have hpr4 : PrTab w4 := HP.out.keptT (N := w2.heap.size) (S := fun _ => True) ⟨HB4.out, fun k cs t fz e hn => absurd True.intro hn⟩ hP
        have HP4 := hide hpr4
        have hP4 : 0 < w4.heap.size := Nat.lt_of_lt_of_le hP HB4.out.size
        clear hb4 hpr4
        go_wp2_with fail
        go_fit (HI.out w4 HP4.out hP4)
        rintro e w5 ⟨rfl, hb5⟩
        have hb5' : Below w2.heap.size w2 (w5.alloc (Obj.cells #[.string s, .string ⟨#[]⟩, .string ⟨#[]⟩, .slice none 0 0, .slice none 0 0, .slice none 0 0, .slice none 0 0, .slice none 0 0, .slice none 0 0] 28)) := (HB4.out.trans (hb5.mono HB4.out.size)).alloc (Nat.le_trans HB4.out.size hb5.size) _
        have HB5 := hide hb5'
        clear hb5 hb5'
        unfold contentV
        go_wp2_with fail
        generalize w5.alloc (Obj.cells #[.string s, .string ⟨#[]⟩, .string ⟨#[]⟩, .slice none 0 0, .slice none 0 0, .slice none 0 0, .slice none 0 0, .slice none 0 0, .slice none 0 0] 28) = W5 at HB5 ⊢
        have hpr5 : PrTab W5 := HP.out.keptT (N := w2.heap.size) (S := fun _ => True) ⟨HB5.out, fun k cs t fz e hn => absurd True.intro hn⟩ hP
        have HP5 := hide hpr5
        have hP5 : 0 < W5.heap.size := Nat.lt_of_lt_of_le hP HB5.out.size
        clear hpr5
        go_fit (reads_any W5 HP5.out hP5)
        rintro e w6 ⟨rfl, hb6⟩
        have HB6 := hide (HB5.out.trans (hb6.mono HB5.out.size))
        clear hb6
        go_wp2_with fail
        go_ret
        exact ⟨rfl, HB6.out⟩
      · have hz2 : (s ++ s).size = 2 := by rw [ByteArray.size_append]; omega
        have haa : autoS (s ++ s) = s ++ s := by unfold autoS; rw [hm]; rfl
        have H2 := hide (implAutoQuote_any (s ++ s) w2 (pr_two HPP.out) (by omega) HP.out hP)
        rw [haa] at H2
        have hw := auto_word HPP.out hl (fun _ => hm)
        obtain ⟨u, hu⟩ : ∃ u, autoS s = u := ⟨_, rfl⟩
        have hA := fun (W : World) h1 h2 => implAutoQuote_any s W HPP.out hl h1 h2
        rw [hu] at hw hA
        have hus := hw.2.2.2
        have HA := hide hA
        have HI := hide (fun W h1 h2 => implParse_ok W _ (bsl u) s (asc_mod hw.2.2.1 hus) hw.1 hw.2.1 h1 h2)
        unfold modS nlS at HI
        clear hw hA hu
        have g1 : ((s.size : Int) == 1) = true := by rw [h1]; rfl
        clear hm haa hz2 h1
        go_wp2_with fail
        go_fit H2.out
        rintro e w3 ⟨rfl, hb3⟩
        have HB3 := hide hb3
        have hpr3 : PrTab w3 := HP.out.keptT (N := w2.heap.size) (S := fun _ => True) ⟨HB3.out, fun k cs t fz e hn => absurd True.intro hn⟩ hP
        have HP3 := hide hpr3
        have hP3 : 0 < w3.heap.size := Nat.lt_of_lt_of_le hP HB3.out.size
        clear hb3 hpr3
        go_wp2_with fail
        go_fit (HA.out w3 HP3.out hP3)
        rintro e w4 ⟨rfl, hb4⟩
        have HB4 := hide (HB3.out.trans (hb4.mono HB3.out.size))
        have hpr4 : PrTab w4 := HP.out.keptT (N := w2.heap.size) (S := fun _ => True) ⟨HB4.out, fun k cs t fz e hn => absurd True.intro hn⟩ hP
        have HP4 := hide hpr4
        have hP4 : 0 < w4.heap.size := Nat.lt_of_lt_of_le hP HB4.out.size
        clear hb4 hpr4
        go_wp2_with fail
        go_fit (HI.out w4 HP4.out hP4)
        rintro e w5 ⟨rfl, hb5⟩
        have hb5' : Below w2.heap.size w2 (w5.alloc (Obj.cells #[.string s, .string ⟨#[]⟩, .string ⟨#[]⟩, .slice none 0 0, .slice none 0 0, .slice none 0 0, .slice none 0 0, .slice none 0 0, .slice none 0 0] 28)) := (HB4.out.trans (hb5.mono HB4.out.size)).alloc (Nat.le_trans HB4.out.size hb5.size) _
        have HB5 := hide hb5'
        clear hb5 hb5'
        unfold contentV
        go_wp2_with fail
        generalize w5.alloc (Obj.cells #[.string s, .string ⟨#[]⟩, .string ⟨#[]⟩, .slice none 0 0, .slice none 0 0, .slice none 0 0, .slice none 0 0, .slice none 0 0, .slice none 0 0] 28) = W5 at HB5 ⊢
        have hpr5 : PrTab W5 := HP.out.keptT (N := w2.heap.size) (S := fun _ => True) ⟨HB5.out, fun k cs t fz e hn => absurd True.intro hn⟩ hP
        have HP5 := hide hpr5
        have hP5 : 0 < W5.heap.size := Nat.lt_of_lt_of_le hP HB5.out.size
        clear hpr5
        go_fit (reads_any W5 HP5.out hP5)
        rintro e w6 ⟨rfl, hb6⟩
        have HB6 := hide (HB5.out.trans (hb6.mono HB5.out.size))
        clear hb6
        go_wp2_with fail
        go_ret
        exact ⟨rfl, HB6.out⟩
      · have hz2 : (s ++ s).size = 2 := by rw [ByteArray.size_append]; omega
        have hne := auto_ne hm
        have H2 := hide (implAutoQuote_any (s ++ s) w2 (pr_two HPP.out) (by omega) HP.out hP)
        obtain ⟨u, hu⟩ : ∃ u, autoS (s ++ s) = u := ⟨_, rfl⟩
        rw [hu] at H2 hne
        have g1 : ((s.size : Int) == 1) = true := by rw [h1]; rfl
        have g2 : (u.toList == (s ++ s).toList) = false := by simp only [beq_eq_false_iff_ne]; exact hne
        clear hm hz2 h1 hu hne
        go_wp2_with fail
        go_fit H2.out
        rintro e w3 ⟨rfl, hb3⟩
        have HB3 := hide hb3
        have hpr3 : PrTab w3 := HP.out.keptT (N := w2.heap.size) (S := fun _ => True) ⟨HB3.out, fun k cs t fz e hn => absurd True.intro hn⟩ hP
        have HP3 := hide hpr3
        have hP3 : 0 < w3.heap.size := Nat.lt_of_lt_of_le hP HB3.out.size
        clear hb3 hpr3
        go_wp2_with fail
        go_fit (reads_any w3 HP3.out hP3)
        rintro e w4 ⟨rfl, hb4⟩
        have HB4 := hide (HB3.out.trans (hb4.mono HB3.out.size))
        clear hb4
        go_wp2_with fail
        go_ret
        exact ⟨rfl, HB4.out⟩
end Go.Proofs.YtifkpibjeamfkaaGreatFmt
