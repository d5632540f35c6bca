/- strconv.Quote at printed signs. -/
import Derived.Test.YtifkpibjeamfkaaGreatFmtE4
import Derived.Test.YtifkpibjeamfkaaGreatFmtC6
set_option linter.unusedVariables false
namespace Go.Proofs.YtifkpibjeamfkaaGreatFmt
open Go.RowKit Go.Proofs

theorem Tryz.infoU8 : (Tryz.prog.info? 5).map (fun i => (i.zero, i.size, i.bytes)) = some (some (.int .u8 0), 1, 1) := by kernel_rfl
theorem Tryz.und_u8s : Tryz.prog.underlying 69 = some (.slice 5) := by kernel_rfl

def u8s (l : List UInt8) : List Value := l.map fun c => Value.int .u8 (c.toNat : Int)
/-- A sign as Quote writes it. -/
def escC (c : UInt8) : List UInt8 := if c = 34 ∨ c = 92 then [92, c] else [c]
def escL (l : List UInt8) : List UInt8 := l.flatMap escC
def quoteL (l : List UInt8) : List UInt8 := 34 :: (escL l ++ [34])

theorem isPrint_low (c : Nat) (w : World) (h1 : 32 ≤ c) (h2 : c ≤ 126) : Calls Tryz.prog 154 #[.int .i32 (c : Int)] w fun e w' => e = .returned (.bool true) ∧ w = w' := by
  have g0 : (c : Int) ≤ 255 := by omega
  have g1 : (32 : Int) ≤ (c : Int) := by omega
  have g2 : (c : Int) ≤ 126 := by omega
  go_enter Tryz.func154, Tryz.ntmps154
  go_wp2
  go_ret
  exact ⟨rfl, rfl⟩

theorem decodeStr_ascii (s : ByteArray) (w : World) (h0 : 0 < s.size) (hc : bt s 0 < 128) : Calls Tryz.prog 123 #[.string s] w fun e w' => e = .returned (.tuple #[.int .i32 (bt s 0 : Nat), .int .i64 1]) ∧ w = w' := by
  have hg : (s[0]'h0).toNat = bt s 0 := bt_get s 0 h0
  have he : s.toList.isEmpty = false := full_of_size (n := s.size - 1) (by omega)
  have g : (bt s 0 : Int) < 128 := by omega
  go_enter Tryz.func123, Tryz.ntmps123
  go_wp2
  go_returns
  exact ⟨rfl, rfl⟩

/-- A slice of the call's own grows by the bytes m. -/
def Grew (N : Nat) (xs : List UInt8) (m : List UInt8) (w : World) (e : Ending) (w' : World) : Prop :=
  ∃ g cap, e = .returned (.slice (some ⟨g, 0, none⟩) (xs.length + m.length) cap) ∧ w'.ownsRow N 5 1 (.slice (some ⟨g, 0, none⟩) (xs.length + m.length) cap) (xs.length + m.length) (u8s (xs ++ m)) ∧ Below N w w'

set_option maxRecDepth 100000 in
set_option maxHeartbeats 2000000 in
theorem appendRune_low (N : Nat) (v : Value) (xs : List UInt8) (c : UInt8) (w : World) (h2 : c.toNat ≤ 126) (ho : w.ownsRow N 5 1 v xs.length (u8s xs)) (hN : N ≤ w.heap.size) (hl : xs.length ≤ 1000000) (hv : ∃ a n c, v = .slice a n c) :
    Calls Tryz.prog 156 #[v, .int .i32 (c.toNat : Int)] w (Grew N xs [c] w) := by
  obtain ⟨i0, hi0, hz0, hz1, hz2⟩ := info_parts Tryz.infoU8
  obtain ⟨va, vn, vc, rfl⟩ := hv
  have g1 : (c.toNat : Int) ≤ 127 := by omega
  have g0 : (0 : Int) ≤ (c.toNat : Int) := by omega
  have HO := hide ho
  have hm1 : xs.length + 1 ≤ maxLen := by unfold maxLen; omega
  have hm2 : (xs.length + 1) * 1 ≤ 140737488355328 := by omega
  have hul : (u8s xs).length = xs.length := by simp [u8s]
  have M := hide (And.intro hm1 hm2)
  clear ho hm1 hm2
  go_enter Tryz.func156, Tryz.ntmps156
  go_wp2_with (at_builtin; refine wpList_append_lies _ rfl _ _ _ rfl N 5 i0 _ 1 1 Tryz.und_u8s hi0 hz0 hz1 hz2 rfl (by omega) _ _ _ (by rfl) (HO.out.alloc _) ⟨w.heap.size, 0, none⟩ 1 1 [.int .u8 (c.toNat : Int)] (by rfl) (by rfl) (news_one _ _ _) (by simp [Value.oneCell']) (by omega) M.out.1 M.out.2 (by simp; omega) (w.heap.size + 1) (by simp) ?_; intro gg cap w3 hown3 hgrow3 hat3 hlt3; have HOWN3 := hide hown3; have hb3 : Below N w w3 := ((Below.refl _ w).mono hN |>.alloc hN _).grown hgrow3 (by simp; omega) (fun k e => own_base HO.out e); have HB3 := hide hb3; clear hown3 hgrow3 hat3 hlt3 hb3)
  go_ret
  exact ⟨gg, cap, rfl, by simpa [u8s] using HOWN3.out, HB3.out⟩

set_option maxRecDepth 100000 in
set_option maxHeartbeats 4000000 in
theorem appendEsc (N : Nat) (v : Value) (xs : List UInt8) (c : UInt8) (w : World) (h1 : 32 ≤ c.toNat) (h2 : c.toNat ≤ 126) (ho : w.ownsRow N 5 1 v xs.length (u8s xs)) (hN : N ≤ w.heap.size) (hl : xs.length ≤ 1000000) (hv : ∃ a n c, v = .slice a n c) :
    Calls Tryz.prog 124 #[v, .int .i32 (c.toNat : Int), .int .u8 34, .bool false, .bool false] w (Grew N xs (escC c) w) := by
  obtain ⟨i0, hi0, hz0, hz1, hz2⟩ := info_parts Tryz.infoU8
  obtain ⟨va, vn, vc, rfl⟩ := hv
  have HO := hide ho
  have hul : (u8s xs).length = xs.length := by simp [u8s]
  by_cases hq : c = 34 ∨ c = 92
  · have he : escC c = [92, c] := by unfold escC; rw [if_pos hq]
    have hm1 : xs.length + 1 ≤ maxLen := by unfold maxLen; omega
    have hm2 : (xs.length + 1) * 1 ≤ 140737488355328 := by omega
    have hm3 : xs.length + 1 + 1 ≤ maxLen := by unfold maxLen; omega
    have hm4 : (xs.length + 1 + 1) * 1 ≤ 140737488355328 := by omega
    have M := hide (And.intro hm1 (And.intro hm2 (And.intro hm3 hm4)))
    have HE := hide he
    clear ho hm1 hm2 hm3 hm4 he
    have hcc : ((c.toNat : Int) == 34) = true ∨ (((c.toNat : Int) == 34) = false ∧ ((c.toNat : Int) == 92) = true) := by
      rcases hq with rfl | rfl
      · exact Or.inl rfl
      · exact Or.inr ⟨rfl, rfl⟩
    clear hq
    rcases hcc with hcc | ⟨hcc, hcd⟩
    all_goals
      go_enter Tryz.func124, Tryz.ntmps124
      go_wp2_with (first
        | (at_builtin; refine wpList_append_lies _ rfl (.tmp 21) (.tmp 22) _ rfl N 5 i0 _ 1 1 Tryz.und_u8s hi0 hz0 hz1 hz2 rfl (by omega) _ _ _ (by rfl) (HO.out.alloc _) ⟨w.heap.size, 0, none⟩ 1 1 [.int .u8 92] (by rfl) (by rfl) (news_one _ _ _) (by simp [Value.oneCell']) (by omega) M.out.1 M.out.2.1 (by simp; omega) (w.heap.size + 1) (by simp) ?_; intro gg cap w3 hown3 hgrow3 hat3 hlt3; have HOWN3 := hide hown3; have hb3 : Below N w w3 := ((Below.refl _ w).mono hN |>.alloc hN _).grown hgrow3 (by simp; omega) (fun k e => own_base HO.out e); have hN3 : N ≤ w3.heap.size := Nat.le_trans hN hb3.size; have HB3 := hide hb3; clear hown3 hgrow3 hat3 hlt3 hb3)
        | (at_builtin; refine wpList_append_lies _ rfl (.tmp 24) (.tmp 27) _ rfl N 5 i0 _ 1 1 Tryz.und_u8s hi0 hz0 hz1 hz2 rfl (by omega) _ _ _ (by rfl) (HOWN3.out.alloc _) ⟨w3.heap.size, 0, none⟩ 1 1 [.int .u8 (c.toNat : Int)] (by rfl) (by rfl) (news_one _ _ _) (by simp [Value.oneCell']) (by omega) M.out.2.2.1 M.out.2.2.2 (by simp; omega) (w3.heap.size + 1) (by simp) ?_; intro gg4 cap4 w4 hown4 hgrow4 hat4 hlt4; have HOWN4 := hide hown4; have hb4 : Below N w w4 := (HB3.out.alloc hN3 _).grown hgrow4 (by simp; omega) (fun k e => own_base HOWN3.out e); have HB4 := hide hb4; clear hown4 hgrow4 hat4 hlt4 hb4))
      go_ret
      rw [HE.out]
      exact ⟨gg4, cap4, rfl, by simpa [u8s] using HOWN4.out, HB4.out⟩
  · have he : escC c = [c] := by unfold escC; rw [if_neg hq]
    have n1 : ((c.toNat : Int) == 34) = false := by
      simp only [beq_eq_false_iff_ne]; intro h; exact hq (Or.inl (UInt8.toNat_inj.1 (by have : c.toNat = 34 := by omega
                                                                                        exact this)))
    have n2 : ((c.toNat : Int) == 92) = false := by
      simp only [beq_eq_false_iff_ne]; intro h; exact hq (Or.inr (UInt8.toNat_inj.1 (by have : c.toNat = 92 := by omega
                                                                                        exact this)))
    have HE := hide he
    have HA := hide (appendRune_low N (.slice va vn vc) xs c w h2 ho hN hl ⟨_, _, _, rfl⟩)
    clear ho he hq
    go_enter Tryz.func124, Tryz.ntmps124
    go_wp2_with fail
    go_fit (isPrint_low c.toNat w h1 h2)
    rintro e w1 ⟨rfl, rfl⟩
    go_wp2_with fail
    go_fit HA.out
    rintro e w2 ⟨g, cap, rfl, ho2, hb2⟩
    have H2 := hide (And.intro ho2 hb2)
    clear ho2 hb2
    go_wp2_with fail
    go_ret
    rw [HE.out]
    exact ⟨g, cap, rfl, H2.out.1, H2.out.2⟩
end Go.Proofs.YtifkpibjeamfkaaGreatFmt
