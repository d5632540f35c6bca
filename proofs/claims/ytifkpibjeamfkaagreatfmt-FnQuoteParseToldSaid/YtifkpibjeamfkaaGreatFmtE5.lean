/- reads; the law on versions that do not begin with v. -/
import Derived.Test.YtifkpibjeamfkaaGreatFmtE4
import Derived.Test.YtifkpibjeamfkaaGreatFmtC14
set_option linter.unusedVariables false
namespace Go.Proofs.YtifkpibjeamfkaaGreatFmt
open Go.RowKit Go.Proofs

theorem Asc.of {t : ByteArray} {T : List UInt8} (he : bsl t = T) (h : ∀ c ∈ T, c.toNat < 128) (hl : T.length ≤ 1000000) : Asc t T := by
  refine ⟨he, fun j => ?_, hl⟩
  rcases Nat.lt_or_ge j T.length with hj | hj
  · obtain ⟨c, hc, e⟩ := ch_mem T j hj
    rw [e]; exact h c hc
  · simp [ch, List.getD_eq_getElem?_getD, List.getElem?_eq_none hj]
theorem nice_m : Nice ⟨#[109]⟩ := by
  refine ⟨by decide, by decide, fun k hk => ?_, fun k hk => ?_⟩
  · obtain rfl : k = 0 := by change k < 1 at hk; omega
    rfl
  · change k + 1 < 1 at hk; omega
theorem Nice.wd {s : ByteArray} (h : Nice s) : Wd (bsl s) := Or.inl h.idW
theorem reads_m (R : Nat) (cur : Array Value) (h : cur[1]? = some (.string (mkS [109]))) : Reads1 R 1 cur ⟨#[109]⟩ := Reads1.plain nice_m.plain h

set_option maxRecDepth 100000 in
set_option maxHeartbeats 2000000 in
theorem reads_any (w : World) (hpr : PrTab w) (hP : 0 < w.heap.size) : Calls Tryz.prog 11 #[] w fun e w' => e = .returned (.bool true) ∧ Below w.heap.size w w' := by
  have ha : Asc ⟨#[109, 111, 100, 117, 108, 101, 32, 109, 10]⟩ (docTxt [[modB, [109]]]) := Asc.of rfl (by decide) (by decide)
  have HC := hide (implParse_ok w _ [109] ⟨#[109]⟩ ha nice_m.wd reads_m hpr hP)
  clear hpr ha
  go_enter Tryz.func11, Tryz.ntmps11
  go_wp2_with fail
  go_fit HC.out
  rintro e w1 ⟨rfl, hb⟩
  have HB := hide hb
  clear hb
  unfold contentV
  go_wp2_with fail
  go_ret
  exact ⟨rfl, HB.out.alloc HB.out.size _⟩

theorem bsl_append (a b : ByteArray) : bsl (a ++ b) = bsl a ++ bsl b := by simp [bsl, ByteArray.data_append]
theorem Nice.ascii {s : ByteArray} (h : Nice s) : ∀ c ∈ bsl s, c.toNat < 128 := by
  intro c hc
  obtain ⟨i, hi, rfl⟩ := List.getElem_of_mem hc
  have hi' : i < s.size := by rw [← bsl_len]; exact hi
  have := wch_bd (h.chars i hi')
  rw [bt_ch] at this
  simp only [ch, List.getD_eq_getElem?_getD, List.getElem?_eq_getElem hi, Option.getD_some] at this
  omega
def lineReq : ByteArray := ⟨#[109, 111, 100, 117, 108, 101, 32, 109, 10, 10, 114, 101, 113, 117, 105, 114, 101, 32]⟩
def lineExc : ByteArray := ⟨#[109, 111, 100, 117, 108, 101, 32, 109, 10, 10, 101, 120, 99, 108, 117, 100, 101, 32]⟩
theorem asc_req {p v : ByteArray} (hp : Nice p) (hv : Nice v) (hp1 : p.size ≤ 400000) (hv1 : v.size ≤ 400000) : Asc (lineReq ++ p ++ ⟨#[32]⟩ ++ v ++ ⟨#[10]⟩) (docTxt [[modB, [109]], [], [bsl reqB, bsl p, bsl v]]) := by
  have l1 := bsl_len p
  have l2 := bsl_len v
  have l3 : (bsl reqB).length = 7 := rfl
  refine Asc.of ?_ ?_ ?_
  · simp only [bsl_append]
    simp [docTxt, lineTxt, modB, bsl, lineReq, reqB]
  · intro c hc
    simp only [docTxt, lineTxt, List.mem_append, List.mem_cons, List.not_mem_nil, or_false, List.append_nil] at hc
    have hm : ∀ c ∈ modB, c.toNat < 128 := by decide
    have hr : ∀ c ∈ bsl reqB, c.toNat < 128 := by decide
    have h1 : ∀ c : UInt8, c = 109 ∨ c = 10 ∨ c = 32 → c.toNat < 128 := by rintro c (rfl | rfl | rfl) <;> decide
    rcases hc with (h | h | h | h) | h | h | h | h | h | h | h
    all_goals first | exact hm c h | exact hr c h | exact hp.ascii c h | exact hv.ascii c h | exact h1 c (Or.inl h) | exact h1 c (Or.inr (Or.inl h)) | exact h1 c (Or.inr (Or.inr h))
  · simp [docTxt, lineTxt, l1, l2, l3, modB]; omega
theorem asc_exc {p v : ByteArray} (hp : Nice p) (hv : Nice v) (hp1 : p.size ≤ 400000) (hv1 : v.size ≤ 400000) : Asc (lineExc ++ p ++ ⟨#[32]⟩ ++ v ++ ⟨#[10]⟩) (docTxt [[modB, [109]], [], [bsl excB, bsl p, bsl v]]) := by
  have l1 := bsl_len p
  have l2 := bsl_len v
  have l3 : (bsl excB).length = 7 := rfl
  refine Asc.of ?_ ?_ ?_
  · simp only [bsl_append]
    simp [docTxt, lineTxt, modB, bsl, lineExc, excB]
  · intro c hc
    simp only [docTxt, lineTxt, List.mem_append, List.mem_cons, List.not_mem_nil, or_false, List.append_nil] at hc
    have hm : ∀ c ∈ modB, c.toNat < 128 := by decide
    have hr : ∀ c ∈ bsl excB, c.toNat < 128 := by decide
    have h1 : ∀ c : UInt8, c = 109 ∨ c = 10 ∨ c = 32 → c.toNat < 128 := by rintro c (rfl | rfl | rfl) <;> decide
    rcases hc with (h | h | h | h) | h | h | h | h | h | h | h
    all_goals first | exact hm c h | exact hr c h | exact hp.ascii c h | exact hv.ascii c h | exact h1 c (Or.inl h) | exact h1 c (Or.inr (Or.inl h)) | exact h1 c (Or.inr (Or.inr h))
  · simp [docTxt, lineTxt, l1, l2, l3, modB]; omega
theorem wd_req : Wd (bsl reqB) := Or.inl (IdW.safe _ (by decide) (by decide))
theorem wd_exc : Wd (bsl excB) := Or.inl (IdW.safe _ (by decide) (by decide))

set_option maxRecDepth 100000 in
set_option maxHeartbeats 4000000 in
theorem law_bad (p v : ByteArray) (w : World) (hpr : PrTab w) (hP : 0 < w.heap.size) : Calls Tryz.prog 4 #[.string p, .string v] w fun e w' => e = .returned (.bool true) ∧ Below w.heap.size w w' := by
  by_cases hsz : (2147483647 : Int) < (p.size : Int)
  · go_enter Tryz.func4, Tryz.ntmps4
    go_wp2_with fail
    go_ret
    exact ⟨rfl, Below.refl _ _⟩
  by_cases hsv : (2147483647 : Int) < (v.size : Int)
  · go_enter Tryz.func4, Tryz.ntmps4
    go_wp2_with fail
    go_ret
    exact ⟨rfl, Below.refl _ _⟩
  have HP := hide hpr
  clear hpr
  go_enter Tryz.func4, Tryz.ntmps4
  go_wp2_with fail
  refine (pathOk_any p w (by omega)).mono ?_
  rintro e w1 ⟨⟨b, rfl, hb⟩, hb1⟩
  have hpr1 : PrTab w1 := HP.out.keptT (N := w.heap.size) (S := fun _ => True) ⟨hb1, fun k cs t fz e hn => absurd True.intro hn⟩ hP
  have hP1 : 0 < w1.heap.size := Nat.lt_of_lt_of_le hP hb1.size
  have HP1 := hide hpr1
  have HB1 := hide hb1
  have HPF := hide hb
  clear hb1 hpr1 hb
  cases b with
  | false =>
    go_wp2_with fail
    go_fit (reads_any w1 HP1.out hP1)
    rintro e w2 ⟨rfl, hb2⟩
    have HB2 := hide (HB1.out.trans (hb2.mono HB1.out.size))
    clear hb2
    go_wp2_with fail
    go_ret
    exact ⟨rfl, HB2.out⟩
  | true =>
    have HPF2 := hide (HPF.out rfl)
    clear HPF
    go_wp2_with fail
    refine (wordOk_any v w1 (by omega)).mono ?_
    rintro e w2 ⟨⟨b, rfl, hb⟩, rfl⟩
    have HWF := hide hb
    clear hb
    cases b with
    | false =>
      go_wp2_with fail
      go_fit (reads_any w2 HP1.out hP1)
      rintro e w3 ⟨rfl, hb2⟩
      have HB2 := hide (HB1.out.trans (hb2.mono HB1.out.size))
      clear hb2
      go_wp2_with fail
      go_ret
      exact ⟨rfl, HB2.out⟩
    | true =>
      have HWF2 := hide (HWF.out rfl)
      clear HWF
      have hv0 := HWF2.out.pos
      have hget : (v[0]'hv0).toNat = bt v 0 := bt_get v 0 hv0
      by_cases h118 : bt v 0 = 118
      · have g : ((bt v 0 : Int) == 118) = true := by rw [h118]; rfl
        clear h118
        go_wp2_with fail
        go_fit (reads_any w2 HP1.out hP1)
        rintro e w3 ⟨rfl, hb2⟩
        have HB2 := hide (HB1.out.trans (hb2.mono HB1.out.size))
        clear hb2
        go_wp2_with fail
        go_ret
        exact ⟨rfl, HB2.out⟩
      · have g : ((bt v 0 : Int) == 118) = false := by simp only [beq_eq_false_iff_ne]; omega
        have HV := hide h118
        clear h118
        go_wp2_with fail
        have np := HPF2.out.nice
        have nv := HWF2.out.nice
        have lp : p.size ≤ 400000 := by have := HPF2.out.len; omega
        have lv : v.size ≤ 400000 := by have := HWF2.out.len; omega
        have hbad : ∀ W : World, BadAdd W reqB p v ∧ BadAdd W excB p v := fun W => BadAdd.version W p v (v.size - 1) np.plain nv.plain (by omega) HV.out
        have H1 := hide (fun W h1 h2 => implParse_bad W _ [109] (bsl reqB) (bsl p) (bsl v) ⟨#[109]⟩ (asc_req np nv lp lv) nice_m.wd wd_req np.wd nv.wd reads_m (by rw [mkS_bsl, mkS_bsl, mkS_bsl]; exact (hbad W).1) h1 h2)
        have H2 := hide (fun W h1 h2 => implParse_bad W _ [109] (bsl excB) (bsl p) (bsl v) ⟨#[109]⟩ (asc_exc np nv lp lv) nice_m.wd wd_exc np.wd nv.wd reads_m (by rw [mkS_bsl, mkS_bsl, mkS_bsl]; exact (hbad W).2) h1 h2)
        clear np nv lp lv hbad
        go_fit (H1.out w2 HP1.out hP1)
        rintro e w3 ⟨rfl, hb3⟩
        have hb3' : Below w.heap.size w (w3.alloc (Obj.cells contentZ 28)) := (HB1.out.trans (hb3.mono HB1.out.size)).alloc (Nat.le_trans HB1.out.size hb3.size) _
        have HB3 := hide hb3'
        clear hb3 hb3'
        unfold contentZ at HB3
        unfold contentV
        go_wp2_with fail
        generalize w3.alloc (Obj.cells #[.string ⟨#[]⟩, .string ⟨#[]⟩, .string ⟨#[]⟩, .slice none 0 0, .slice none 0 0, .slice none 0 0, .slice none 0 0, .slice none 0 0, .slice none 0 0] 28) = W3 at HB3 ⊢
        have hpr3 : PrTab W3 := HP.out.keptT (N := w.heap.size) (S := fun _ => True) ⟨HB3.out, fun k cs t fz e hn => absurd True.intro hn⟩ hP
        have HP3 := hide hpr3
        have hP3 : 0 < W3.heap.size := Nat.lt_of_lt_of_le hP HB3.out.size
        clear hpr3
        go_fit (H2.out W3 HP3.out hP3)
        rintro e w4 ⟨rfl, hb4⟩
        have hb4' : Below w.heap.size w (w4.alloc (Obj.cells contentZ 28)) := (HB3.out.trans (hb4.mono HB3.out.size)).alloc (Nat.le_trans HB3.out.size hb4.size) _
        have HB4 := hide hb4'
        clear hb4 hb4'
        unfold contentZ at HB4
        unfold contentV
        go_wp2_with fail
        generalize w4.alloc (Obj.cells #[.string ⟨#[]⟩, .string ⟨#[]⟩, .string ⟨#[]⟩, .slice none 0 0, .slice none 0 0, .slice none 0 0, .slice none 0 0, .slice none 0 0, .slice none 0 0] 28) = W4 at HB4 ⊢
        have hpr4 : PrTab W4 := HP.out.keptT (N := w.heap.size) (S := fun _ => True) ⟨HB4.out, fun k cs t fz e hn => absurd True.intro hn⟩ hP
        have hP4 : 0 < W4.heap.size := Nat.lt_of_lt_of_le hP HB4.out.size
        have HP4 := hide hpr4
        clear hpr4
        go_fit (reads_any W4 HP4.out hP4)
        rintro e w5 ⟨rfl, hb5⟩
        have HB5 := hide (HB4.out.trans (hb5.mono HB4.out.size))
        clear hb5
        go_wp2_with fail
        go_ret
        exact ⟨rfl, HB5.out⟩
end Go.Proofs.YtifkpibjeamfkaaGreatFmt
