/- strconv.Quote whole, at printed signs; AutoQuote. -/
import Derived.Test.YtifkpibjeamfkaaGreatFmtQ1
import Derived.OwnWalk
import Derived.Laws.OwnMore
import Derived.Deep.DeepFit
set_option linter.unusedVariables false
namespace Go.Proofs.YtifkpibjeamfkaaGreatFmt
open Go.RowKit Go.Proofs

theorem bsl_ext (s : ByteArray) (a b : Nat) : bsl (s.extract a b) = ((bsl s).drop a).take (b - a) := by
  cases s; simp [bsl, ByteArray.extract, ByteArray.copySlice]
theorem bsl_inj' {a b : ByteArray} (h : bsl a = bsl b) : a = b := by
  rw [← mkS_bsl a, ← mkS_bsl b, h]

def Pr (l : List UInt8) : Prop := ∀ c ∈ l, 32 ≤ c.toNat ∧ c.toNat ≤ 126
theorem escL_len (l : List UInt8) : (escL l).length ≤ 2 * l.length := by
  induction l with
  | nil => simp [escL]
  | cons c l ih =>
    have : (escC c).length ≤ 2 := by unfold escC; split <;> simp
    simp only [escL, List.flatMap_cons, List.length_append, List.length_cons] at ih ⊢
    omega
theorem escL_snoc (l : List UInt8) (c : UInt8) : escL (l ++ [c]) = escL l ++ escC c := by simp [escL]

/-- At the head of Quote's loop: r is left, pre is written. -/
def QInv (N : Nat) (s : ByteArray) (w : World) (k : Nat) (v0 v1 : Value) (wr : World) : Prop :=
  ∃ (r : ByteArray) (pre : List UInt8), v1 = .string r ∧ r.size = k ∧ bsl s = pre ++ bsl r ∧ (∃ a n c, v0 = .slice a n c) ∧ wr.ownsRow N 5 1 v0 (34 :: escL pre).length (u8s (34 :: escL pre)) ∧ Below N w wr

set_option maxRecDepth 100000 in
set_option maxHeartbeats 4000000 in
theorem appendQuoted (N g C : Nat) (s : ByteArray) (w : World) (hp : Pr (bsl s)) (hC : s.size ≤ C) (hCb : C ≤ 1000000) (hs : s.size ≤ 10000) (ho : w.ownsRow N 5 1 (.slice (some ⟨g, 0, none⟩) 0 C) 0 []) (hN : N ≤ w.heap.size) :
    Calls Tryz.prog 83 #[.slice (some ⟨g, 0, none⟩) 0 C, .string s, .int .u8 34, .bool false, .bool false] w (Grew N [] (quoteL (bsl s)) w) := by
  obtain ⟨i0, hi0, hz0, hz1, hz2⟩ := info_parts Tryz.infoU8
  have HO := hide ho
  have HP := hide hp
  have hls := bsl_len s
  have hC0 : ¬ (C : Int) < (s.size : Int) := by omega
  have hm1 : 0 + 1 ≤ maxLen := by unfold maxLen; omega
  have M := hide hm1
  clear ho hp hm1
  go_enter Tryz.func83, Tryz.ntmps83
  go_wp2_with (at_builtin; refine wpList_append_lies _ rfl _ _ _ rfl N 5 i0 _ 1 1 Tryz.und_u8s hi0 hz0 hz1 hz2 rfl (by omega) _ _ _ (by rfl) (HO.out.alloc _) ⟨w.heap.size, 0, none⟩ 1 1 [.int .u8 34] (by rfl) (by rfl) (news_one _ _ _) (by simp [Value.oneCell']) (by omega) M.out (by omega) (by simp; omega) (w.heap.size + 1) (by simp) ?_; intro gg cap w3 hown3 hgrow3 hat3 hlt3; have HOWN3 := hide hown3; have hb3 : Below N w w3 := ((Below.refl _ w).mono hN |>.alloc hN _).grown hgrow3 (by simp; omega) (fun k e => own_base HO.out e); have HB3 := hide hb3; clear hown3 hgrow3 hat3 hlt3 hb3)
  go_loopg [0, 1] s.size (fun k v0 v1 wr => Hid (QInv N s w k v0 v1 wr))
  case atStart => exact hide ⟨s, [], rfl, rfl, rfl, ⟨_, _, _, rfl⟩, by simpa [u8s, escL] using HOWN3.out, HB3.out⟩
  case round =>
    obtain ⟨r, pre, rfl, hrk, hsp, ⟨va, vn, vc, rfl⟩, hown, hbel⟩ := hrel.out
    clear hrel
    have HSP := hide hsp
    have HW := hide hown
    have HBL := hide hbel
    have hlr := bsl_len r
    have hpl : pre.length + r.size = s.size := by rw [← hls, hsp, List.length_append, hlr]
    have hel := escL_len pre
    have hNr : N ≤ wr.heap.size := Nat.le_trans hN hbel.size
    have hl1 : (34 :: escL pre).length ≤ 1000000 := by simp; omega
    clear hsp hown hbel
    rcases Nat.eq_zero_or_pos r.size with h0 | h0
    · have g0 : ¬ (0 : Int) < (r.size : Int) := by omega
      have hm2 : (34 :: escL pre).length + 1 ≤ maxLen := by unfold maxLen; omega
      have hm3 : ((34 :: escL pre).length + 1) * 1 ≤ 140737488355328 := by omega
      have M2 := hide (And.intro hm2 hm3)
      have hpre : pre = bsl s := by
        have : bsl r = [] := List.eq_nil_of_length_eq_zero (by omega)
        rw [HSP.out, this, List.append_nil]
      have HPRE := hide hpre
      clear hm2 hm3 hpre hlr h0
      go_wp2_with (at_builtin; refine wpList_append_lies _ rfl _ _ _ rfl N 5 i0 _ 1 1 Tryz.und_u8s hi0 hz0 hz1 hz2 rfl (by omega) _ _ _ (by rfl) (HW.out.alloc _) ⟨wr.heap.size, 0, none⟩ 1 1 [.int .u8 34] (by rfl) (by rfl) (news_one _ _ _) (by simp [Value.oneCell']) (by omega) M2.out.1 M2.out.2 (by simp; omega) (wr.heap.size + 1) (by simp) ?_; intro gg5 cap5 w5 hown5 hgrow5 hat5 hlt5; have HOWN5 := hide hown5; have hb5 : Below N w w5 := (HBL.out.alloc hNr _).grown hgrow5 (by simp; omega) (fun k e => own_base HW.out e); have HB5 := hide hb5; clear hown5 hgrow5 hat5 hlt5 hb5)
      go_ret
      refine ⟨gg5, cap5, ?_, ?_, HB5.out⟩
      · rw [← HPRE.out]; simp [quoteL]
      · rw [← HPRE.out]; simpa [quoteL, u8s] using HOWN5.out
    · obtain ⟨c, l, hcl⟩ : ∃ c l, bsl r = c :: l := by
        cases hb : bsl r with
        | nil => rw [hb] at hlr; simp at hlr; omega
        | cons c l => exact ⟨c, l, rfl⟩
      have hbt : bt r 0 = c.toNat := by rw [bt_ch, hcl]; rfl
      have hcp : 32 ≤ c.toNat ∧ c.toNat ≤ 126 := HP.out c (by rw [HSP.out, hcl]; simp)
      have g0 : (0 : Int) < (r.size : Int) := by omega
      have g1 : (1 : Int) ≤ (r.size : Int) := by omega
      have hD := decodeStr_ascii r wr h0 (by omega)
      rw [hbt] at hD
      have HDD := hide hD
      have gF : ((c.toNat : Int) == 65533) = false := by simp only [beq_eq_false_iff_ne]; omega
      have HA := hide (appendEsc N (.slice va vn vc) (34 :: escL pre) c wr hcp.1 hcp.2 HW.out hNr hl1 ⟨_, _, _, rfl⟩)
      have hne : bsl (r.extract 1 r.size) = l := by
        rw [bsl_ext, hcl]
        simp
        rw [List.take_of_length_le]
        rw [hcl] at hlr; simp at hlr; omega
      have hns : (r.extract 1 r.size).size = r.size - 1 := by rw [ByteArray.size_extract]; omega
      have HNE := hide (And.intro hne (And.intro hns hcl))
      clear hbt hcp hD hne hns hcl hlr
      go_wp2_with fail
      go_fit HDD.out
      rintro e w4 ⟨rfl, rfl⟩
      go_wp2_with fail
      go_fit HA.out
      rintro e w5 ⟨g5, cap5, rfl, ho5, hb5⟩
      have H5 := hide (And.intro ho5 hb5)
      clear ho5 hb5
      go_wp2_with fail
      go_roundg (gk - 1)
      case measure => omega
      case rel =>
        refine hide ⟨r.extract 1 r.size, pre ++ [c], by rw [hrk], by rw [HNE.out.2.1]; omega, ?_, ⟨_, _, _, rfl⟩, ?_, HBL.out.trans (H5.out.2)⟩
        · rw [HNE.out.1, HSP.out, HNE.out.2.2]; simp
        · have h6 := H5.out.1
          have e : (34 :: (escL pre ++ escC c)).length = (34 :: escL pre).length + (escC c).length := by
            simp only [List.length_cons, List.length_append]; omega
          rw [escL_snoc, e]
          exact h6
end Go.Proofs.YtifkpibjeamfkaaGreatFmt
