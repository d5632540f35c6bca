/- strconv.unquote at what Quote writes. -/
import Derived.Test.YtifkpibjeamfkaaGreatFmtQ6
import Derived.OwnWalk
set_option linter.unusedVariables false
namespace Go.Proofs.YtifkpibjeamfkaaGreatFmt
open Go.RowKit Go.Proofs

/-- What unquote gives: the text, nothing left. -/
def Unq (l : List UInt8) (w : World) (e : Ending) (w' : World) : Prop := e = .returned (.tuple #[.string (mkS l), .string ⟨#[]⟩, .nilIface]) ∧ Below w.heap.size w w'

theorem contains_yes (t : ByteArray) (c : UInt8) (ci : Int) (w : World) (hci : ci.toNat.toUInt8 = c) (h : c ∈ bsl t) : Calls Tryz.prog 166 #[.string t, .int .u8 ci] w fun e w' => e = .returned (.bool true) ∧ w' = w :=
  scContains_any t ci true w (by
    have := idx_in (bsl t) c h
    change (!(Lib.indexByte (bsl t) ci.toNat.toUInt8 == -1)) = true
    rw [hci]
    have h2 : (Lib.indexByte (bsl t) c == -1) = false := by simp only [beq_eq_false_iff_ne]; omega
    rw [h2]; rfl)
theorem contains_no (t : ByteArray) (c : UInt8) (ci : Int) (w : World) (hci : ci.toNat.toUInt8 = c) (h : ∀ x ∈ bsl t, x ≠ c) : Calls Tryz.prog 166 #[.string t, .int .u8 ci] w fun e w' => e = .returned (.bool false) ∧ w' = w :=
  scContains_any t ci false w (by
    change (!(Lib.indexByte (bsl t) ci.toNat.toUInt8 == -1)) = false
    rw [hci, idx_none (bsl t) c h]; rfl)

theorem quoteL_len (l : List UInt8) : (quoteL l).length = (escL l).length + 2 := by simp [quoteL]

set_option maxRecDepth 100000 in
set_option maxHeartbeats 4000000 in
theorem unquote_plain (l : List UInt8) (w : World) (hp : Pr l) (hl : l.length ≤ 10000) (hc : ∀ c ∈ l, ¬ (c = 34 ∨ c = 92)) :
    Calls Tryz.prog 138 #[.string (mkS (quoteL l)), .bool true] w (Unq l w) := by
  obtain ⟨S, hS⟩ : ∃ S, mkS (quoteL l) = S := ⟨_, rfl⟩
  have hb : bsl S = 34 :: (l ++ [34]) := by rw [← hS, bsl_mk, quoteL, escL_plain l hc]
  have hsz : S.size = l.length + 2 := by rw [← bsl_len, hb]; simp
  rw [hS]
  have p0 : 0 < S.size := by omega
  have hg : (S[0]'p0).toNat = 34 := by rw [bt_get S 0 p0, bt_ch, hb]; rfl
  have hx1 : bsl (S.extract 1 (l.length + 2)) = l ++ [34] := by
    rw [bsl_ext, hb]
    simp only [List.drop_succ_cons, List.drop_zero]
    exact List.take_of_length_le (by simp)
  have hidx : Lib.indexByte (S.extract 1 (l.length + 2)).data.toList ((34 : Int)).toNat.toUInt8 = (l.length : Int) := by
    change Lib.indexByte (bsl (S.extract 1 (l.length + 2))) 34 = _
    rw [hx1]
    have := (cut_plain l hc).idx
    rwa [escL_plain l hc] at this
  have hxe : S.extract 0 (l.length + 2) = S := bsl_inj' (by rw [bsl_ext, hb]; simp only [List.drop_zero]; exact List.take_of_length_le (by simp))
  have hxi : S.extract 1 (l.length + 1) = mkS l := bsl_inj' (by rw [bsl_ext, hb, bsl_mk]; simp)
  have hxr : S.extract (l.length + 2) (l.length + 2) = ⟨#[]⟩ := bsl_inj' (by rw [bsl_ext]; simp [bsl])
  have hC := hide (fun W => scIndex_any (S.extract 1 (l.length + 2)) 34 W)
  have hK1 := hide (fun W => contains_no S 92 92 W rfl (by
    rw [hb]; intro x hx
    rcases List.mem_cons.1 hx with rfl | hx
    · decide
    · rcases List.mem_append.1 hx with hx | hx
      · exact fun h => hc x hx (Or.inr h)
      · rw [List.mem_singleton] at hx; subst hx; decide))
  have hK2 := hide (fun W => contains_no S 10 10 W rfl (by
    rw [hb]; intro x hx
    rcases List.mem_cons.1 hx with rfl | hx
    · decide
    · rcases List.mem_append.1 hx with hx | hx
      · intro h; have := hp x hx; rw [h] at this; exact absurd this.1 (by decide)
      · rw [List.mem_singleton] at hx; subst hx; decide))
  have hV := hide (fun W => validString_ascii (mkS l) W (a7_of (by rw [bsl_mk]; exact hp)) (by rw [mkS_size]; omega))
  have HIDX := hide hidx
  have g1 : ¬ (l.length : Int) + 2 < 2 := by omega
  have g2 : (0 : Int) < (l.length : Int) + 2 := by omega
  have g3 : (1 : Int) ≤ (l.length : Int) + 2 := by omega
  have g4 : ¬ (l.length : Int) < 0 := by omega
  have g6 : (1 : Int) ≤ (l.length : Int) + 2 - 1 := by omega
  have g7 : (1 : Int) ≤ (l.length : Int) + 1 := by omega
  have gw : IntKind.i64.wrap ((l.length : Int) + 2) = (l.length : Int) + 2 := Go.IntWalk.i64_in _ (by omega)
  have gt : ((l.length : Int) + 2).toNat = l.length + 2 := by omega
  clear hb hidx hx1 hc hp
  go_enter Tryz.func138, Tryz.ntmps138
  go_wp2_with fail
  refine (hC.out _).mono ?_
  rintro e w1 ⟨rfl, rfl⟩
  rw [HIDX.out]
  go_wp2_with fail
  refine (hK1.out _).mono ?_
  rintro e w2 ⟨rfl, rfl⟩
  go_wp2_with fail
  refine (hK2.out _).mono ?_
  rintro e w3 ⟨rfl, rfl⟩
  go_wp2_with fail
  refine (hV.out _).mono ?_
  rintro e w4 ⟨rfl, q, rfl⟩
  go_wp2_with fail
  go_quiet (fail)
  go_wp2_with fail
  go_returns
  exact ⟨rfl, below_drewN (below_drewN (Below.refl _ _) q) _⟩

/-- At the head of unquote's loop: r is left, pre is written. -/
def UInv (N : Nat) (l : List UInt8) (w : World) (k : Nat) (v0 v14 : Value) (wr : World) : Prop :=
  ∃ (t : ByteArray) (r pre : List UInt8), v0 = .string t ∧ bsl t = escL r ++ [34] ∧ r.length = k ∧ l = pre ++ r ∧ (∃ g c, v14 = .slice (some ⟨g, 0, none⟩) pre.length c) ∧ wr.ownsRow N 5 1 v14 pre.length (u8s pre) ∧ Below N w wr

set_option maxRecDepth 100000 in
set_option maxHeartbeats 4000000 in
theorem unquote_esc (l : List UInt8) (w : World) (hp : Pr l) (hl : l.length ≤ 10000) (e : Nat) (hcut : Cut l e) (h92 : (92 : UInt8) ∈ (quoteL l).take (e + 2)) :
    Calls Tryz.prog 138 #[.string (mkS (quoteL l)), .bool true] w (Unq l w) := by
  obtain ⟨i0, hi0, hz0, hz1, hz2⟩ := info_parts Tryz.infoU8
  have hel := escL_len l
  obtain ⟨S, hS⟩ : ∃ S, mkS (quoteL l) = S := ⟨_, rfl⟩
  have hb : bsl S = 34 :: (escL l ++ [34]) := by rw [← hS, bsl_mk, quoteL]
  obtain ⟨n, hn⟩ : ∃ n, (escL l).length = n := ⟨_, rfl⟩
  have hsz : S.size = n + 2 := by rw [← bsl_len, hb]; simp [hn]
  have hlt := hcut.lt
  rw [List.length_append, hn] at hlt
  have hlt : e < n + 1 := by simpa using hlt
  rw [hS]
  have p0 : 0 < S.size := by omega
  have hg : (S[0]'p0).toNat = 34 := by rw [bt_get S 0 p0, bt_ch, hb]; rfl
  have hx1 : bsl (S.extract 1 (n + 2)) = escL l ++ [34] := by
    rw [bsl_ext, hb]
    simp only [List.drop_succ_cons, List.drop_zero]
    exact List.take_of_length_le (by simp [hn])
  have hidx : Lib.indexByte (S.extract 1 (n + 2)).data.toList ((34 : Int)).toNat.toUInt8 = (e : Int) := by
    change Lib.indexByte (bsl (S.extract 1 (n + 2))) 34 = _
    rw [hx1]; exact hcut.idx
  have hC := hide (fun W => scIndex_any (S.extract 1 (n + 2)) 34 W)
  have hK1 := hide (fun W => contains_yes (S.extract 0 (e + 2)) 92 92 W rfl (by
    rw [bsl_ext, hb]; simpa [quoteL] using h92))
  have HIDX := hide hidx
  have HX := hide hx1
  have HP := hide hp
  obtain ⟨c, hc⟩ : ∃ c, c = 3 * (e + 2) / 2 := ⟨_, rfl⟩
  have hcI : 3 * ((e : Int) + 2) / 2 = (c : Int) := by omega
  have hcT : (3 * ((e : Int) + 2)).tdiv 2 = (c : Int) := by rw [Int.tdiv_eq_ediv_of_nonneg (by omega)]; exact hcI
  have hcb : c ≤ 1000000 := by omega
  have g1 : ¬ (n : Int) + 2 < 2 := by omega
  have g2 : (0 : Int) < (n : Int) + 2 := by omega
  have g3 : (1 : Int) ≤ (n : Int) + 2 := by omega
  have g4 : ¬ (e : Int) < 0 := by omega
  have g5 : (e : Int) + 2 ≤ (n : Int) + 2 := by omega
  have g5' : (0 : Int) ≤ (e : Int) + 2 := by omega
  have gw : IntKind.i64.wrap ((e : Int) + 2) = (e : Int) + 2 := Go.IntWalk.i64_in _ (by omega)
  have gw3 : IntKind.i64.wrap (3 * ((e : Int) + 2)) = 3 * ((e : Int) + 2) := Go.IntWalk.i64_in _ (by omega)
  have gt : ((e : Int) + 2).toNat = e + 2 := by omega
  clear hb hidx hx1 hcut h92 hp hc hel hlt
  go_enter Tryz.func138, Tryz.ntmps138
  go_wp2_with fail
  refine (hC.out _).mono ?_
  rintro e w1 ⟨rfl, rfl⟩
  rw [HIDX.out]
  go_wp2_with fail
  refine (hK1.out _).mono ?_
  rintro e w2 ⟨rfl, rfl⟩
  go_wp2_with (first
    | (at_make; refine wpList_make_own _ rfl _ _ 69 rfl w2.heap.size 5 i0 (.int .u8 0) 1 Tryz.und_u8s hi0 hz0 hz1 _ _ _ c rfl rfl (by first | rfl | assumption) (by rw [hz2]; omega) (by unfold maxLen; omega) (Nat.le_refl _) ?_; intro w3 hown hg3; have HO := hide hown; have hb3 : Below w2.heap.size w2 w3 := (Below.refl _ w2).grown hg3 (Nat.le_refl _) (by intro k hk; cases hk); have HB3 := hide hb3; clear hown hg3 hb3))
  go_loopg [0, 14] l.length (fun k v0 v14 wr => Hid (UInv w2.heap.size l w2 k v0 v14 wr))
  case atStart => exact hide ⟨_, l, [], rfl, HX.out, rfl, rfl, ⟨_, _, rfl⟩, HO.out, HB3.out⟩
  case round =>
    obtain ⟨t, r, pre, rfl, htb, hrk, hlp, ⟨g, cp, rfl⟩, hown, hbel⟩ := hrel.out
    clear hrel
    have HW := hide hown
    have HBL := hide hbel
    have hlt := bsl_len t
    have hNr : w2.heap.size ≤ wr.heap.size := hbel.size
    have hpl : pre.length + r.length = l.length := by rw [hlp, List.length_append]
    clear hown hbel
    cases r with
    | nil =>
      have htl : bsl t = [34] := by rw [htb]; rfl
      have ht1 : t.size = 1 := by rw [← hlt, htl]; rfl
      have h0 : 0 < t.size := by omega
      have hg0 : (t[0]'h0).toNat = 34 := by rw [bt_get t 0 h0, bt_ch, htl]; rfl
      have hx : t.extract 1 1 = ⟨#[]⟩ := bsl_inj' (by rw [bsl_ext]; simp [bsl])
      have hle : l = pre := by rw [hlp]; simp
      have HCV := hide (conv_own HW.out rfl)
      have HLE := hide hle
      clear htb htl hlp hle
      go_wp2_with fail
      rw [HCV.out]
      go_wp2_with fail
      go_returns
      exact ⟨by rw [HLE.out]; rfl, HBL.out⟩
    | cons c r =>
      have hcp : 32 ≤ c.toNat ∧ c.toNat ≤ 126 := HP.out c (by rw [hlp]; simp)
      have hte : bsl t = escC c ++ (escL r ++ [34]) := by rw [htb, escL_cons, List.append_assoc]
      have h0 : 0 < t.size := by
        rw [← hlt, hte, List.length_append, List.length_append]; simp; omega
      have hU := hide (fun W => unqC t c (escL r ++ [34]) W hcp.2 hte)
      have hf : ∃ f : Nat, bt t 0 = f ∧ f ≠ 34 ∧ f ≠ 10 := by
        refine ⟨_, rfl, ?_⟩
        rw [bt_ch, hte]
        by_cases hc : c = 34 ∨ c = 92
        · rw [escC_esc c hc]; exact ⟨by change (92 : UInt8).toNat ≠ 34; decide, by change (92 : UInt8).toNat ≠ 10; decide⟩
        · rw [escC_plain c hc]
          have n1 : c.toNat ≠ 34 := fun h => hc (Or.inl (UInt8.toNat_inj.1 (by rw [h]; rfl)))
          exact ⟨n1, by change c.toNat ≠ 10; omega⟩
      obtain ⟨f, hf, hf1, hf2⟩ := hf
      have hg0 : (t[0]'h0).toNat = f := by rw [bt_get t 0 h0]; exact hf
      have f1 : ((f : Int) == 34) = false := by simp only [beq_eq_false_iff_ne]; omega
      have f2 : ((f : Int) == 10) = false := by simp only [beq_eq_false_iff_ne]; omega
      have f3 : (0 : Int) < (t.size : Int) := by omega
      have f4 : (c.toNat : Int) < 128 := by omega
      have f5 : IntKind.u8.wrap (c.toNat : Int) = (c.toNat : Int) := Go.IntWalk.u8_in _ (by omega)
      have hpl' : pre.length + (r.length + 1) = l.length := by simpa using hpl
      have hm1 : pre.length + 1 ≤ maxLen := by unfold maxLen; omega
      have hm2 : (pre.length + 1) * 1 ≤ 140737488355328 := by omega
      have M2 := hide (And.intro hm1 hm2)
      have HLP := hide hlp
      have HRK := hide hrk
      have hul : (u8s pre).length = pre.length := by simp [u8s]
      clear htb hte hf hm1 hm2 hlp hlt hpl
      go_wp2_with fail
      refine (hU.out _).mono ?_
      rintro e w4 ⟨rfl, q, rfl⟩
      have HW4 := hide (own_drewN HW.out q)
      have HB4 := hide (below_drewN HBL.out q)
      have hN4 : w2.heap.size ≤ (wr.drewN q).heap.size := HB4.out.size
      generalize wr.drewN q = w4 at HW4 HB4 hN4 ⊢
      go_wp2_with (at_builtin; refine wpList_append_lies _ rfl _ _ _ rfl w2.heap.size 5 i0 _ 1 1 Tryz.und_u8s hi0 hz0 hz1 hz2 rfl (by omega) _ _ _ (by rfl) (HW4.out.alloc _) ⟨w4.heap.size, 0, none⟩ 1 1 [.int .u8 (c.toNat : Int)] (by rfl) (by rfl) (news_one _ _ _) (by simp [Value.oneCell']) (by omega) M2.out.1 M2.out.2 (by simp; omega) (w4.heap.size + 1) (by simp) ?_; intro gg5 cap5 w5 hown5 hgrow5 hat5 hlt5; have HOWN5 := hide hown5; have hb5 : Below w2.heap.size w2 w5 := (HB4.out.alloc hN4 _).grown hgrow5 (by simp; omega) (fun k e => own_base HW4.out e); have HB5 := hide hb5; clear hown5 hgrow5 hat5 hlt5 hb5)
      go_roundg (gk - 1)
      case measure => have := HRK.out; simp only [List.length_cons] at this; omega
      case rel => exact hide ⟨_, r, pre ++ [c], rfl, bsl_mk _, by have := HRK.out; simp only [List.length_cons] at this; omega, by rw [HLP.out]; simp, ⟨_, _, by rw [List.length_append]; rfl⟩, by simpa [u8s] using HOWN5.out, HB5.out⟩
end Go.Proofs.YtifkpibjeamfkaaGreatFmt
