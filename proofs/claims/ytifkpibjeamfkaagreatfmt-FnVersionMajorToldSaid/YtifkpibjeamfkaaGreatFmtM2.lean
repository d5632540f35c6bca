/- semver.parseInt, parse, Canonical, Build, Major at a version of three numbers. -/
import Derived.Test.YtifkpibjeamfkaaGreatFmtE4
import Derived.Test.YtifkpibjeamfkaaGreatFmtC8
import Derived.Deep.DeepFit
set_option linter.unusedVariables false
namespace Go.Proofs.YtifkpibjeamfkaaGreatFmt
open Go.RowKit Go.Proofs

/-- parseInt reads D off v, and leaves r. -/
def PI (v D r : ByteArray) : Prop := ∀ w : World, Calls Tryz.prog 169 #[.string v] w fun e w' => e = .returned (.tuple #[.string D, .string r, .bool true]) ∧ ∃ n, w' = w.drewN n

set_option maxRecDepth 100000 in
set_option maxHeartbeats 2000000 in
theorem parseInt_any (v : ByteArray) (j : Nat) (h0 : 0 < j) (hj : j ≤ v.size) (hd : ∀ i, i < j → digB (bt v i) = true) (hend : j < v.size → digB (bt v j) = false) (hz : bt v 0 ≠ 48 ∨ j = 1) (hs : v.size ≤ 1000000) :
    PI v (v.extract 0 j) (v.extract j v.size) := by
  intro w
  have hv0 : 0 < v.size := by omega
  have he : v.toList.isEmpty = false := full_of_size (n := v.size - 1) (by omega)
  have hg0 : (v[0]'hv0).toNat = bt v 0 := bt_get v 0 hv0
  have hd0 := hd 0 h0
  simp only [digB, decide_eq_true_eq] at hd0
  have c1 : ¬ (bt v 0 : Int) < 48 := by omega
  have c2 : ¬ (57 : Int) < (bt v 0 : Int) := by omega
  have HD := hide hd
  have HE := hide hend
  have HZ := hide hz
  clear hd hend hz hd0
  go_enter Tryz.func169, Tryz.ntmps169
  go_wp2_with fail
  go_loopg [5] (j - 1) (fun k v5 wr => wr = w ∧ ∃ i : Nat, 1 ≤ i ∧ i + k = j ∧ v5 = .int .i64 (i : Int))
  case atStart => exact ⟨rfl, 1, by omega, by omega, rfl⟩
  case round =>
    obtain ⟨rfl, i, hi1, hik, rfl⟩ := hrel
    rcases Nat.lt_or_ge i j with hlt | hge
    · have hiv : i < v.size := by omega
      have hg : (v[i]'hiv).toNat = bt v i := bt_get v i hiv
      have hdi := HD.out i hlt
      simp only [digB, decide_eq_true_eq] at hdi
      have d1 : (48 : Int) ≤ (bt v i : Int) := by omega
      have d2 : (bt v i : Int) ≤ 57 := by omega
      have d3 : (i : Int) < (v.size : Int) := by omega
      clear hdi
      go_wp2_with fail
      go_roundg (j - (i + 1))
      case measure => omega
      case rel => exact ⟨rfl, i + 1, by omega, by omega, by simp⟩
    · obtain rfl : i = j := by omega
      have fin : ∀ (w' : World) (e : Ending), e = .returned (.tuple #[.string (v.extract 0 i), .string (v.extract i v.size), .bool true]) → (∃ n, w' = wr.drewN n) → (e = .returned (.tuple #[.string (v.extract 0 i), .string (v.extract i v.size), .bool true]) ∧ ∃ n, w' = wr.drewN n) := fun w' e h1 h2 => ⟨h1, h2⟩
      have z0 : (0 : Int) ≤ (i : Int) := by omega
      have z1 : (i : Int) ≤ (v.size : Int) := by omega
      have zz : ((bt v 0 : Int) == 48) = false ∨ (((bt v 0 : Int) == 48) = true ∧ i = 1) := by
        rcases HZ.out with h | h
        · exact Or.inl (by simp only [beq_eq_false_iff_ne]; omega)
        · by_cases h48 : bt v 0 = 48
          · exact Or.inr ⟨by rw [h48]; rfl, h⟩
          · exact Or.inl (by simp only [beq_eq_false_iff_ne]; omega)
      rcases Nat.lt_or_ge i v.size with hiv | hiv
      · have hg : (v[i]'hiv).toNat = bt v i := bt_get v i hiv
        have hdi := HE.out hiv
        simp only [digB, decide_eq_false_iff_not] at hdi
        have d3 : (i : Int) < (v.size : Int) := by omega
        by_cases d1 : (48 : Int) ≤ (bt v i : Int)
        · have d2 : ¬ (bt v i : Int) ≤ 57 := by omega
          clear hdi
          rcases zz with zz | ⟨zz, rfl⟩
          all_goals
            go_wp2_with fail
            go_quiet (fail)
            go_wp2_with fail
            go_returns
            exact ⟨rfl, _, rfl⟩
        · clear hdi
          rcases zz with zz | ⟨zz, rfl⟩
          all_goals
            go_wp2_with fail
            go_quiet (fail)
            go_wp2_with fail
            go_returns
            exact ⟨rfl, _, rfl⟩
      · have hsz : v.size = i := by omega
        have d3 : ¬ (i : Int) < (v.size : Int) := by omega
        clear hsz
        rcases zz with zz | ⟨zz, rfl⟩
        all_goals
          go_wp2_with fail
          go_quiet (fail)
          go_wp2_with fail
          go_returns
          exact ⟨rfl, _, rfl⟩

theorem Below.drewN' {B : Nat} {a w : World} (h : Below B a w) (n : Nat) : Below B a (w.drewN n) := ⟨h.os, h.tape, h.output, h.size, h.block⟩

/-- A version of three numbers, as parse takes it apart. -/
structure Ver3 (s v1 v2 v3 v4 v5 D z1 z2 : ByteArray) : Prop where
  hpos : 0 < s.size
  h118 : bt s 0 = 118
  e1 : s.extract 1 s.size = v1
  p1 : PI v1 D v2
  h2 : 0 < v2.size
  b2 : bt v2 0 = 46
  e2 : v2.extract 1 v2.size = v3
  p2 : PI v3 z1 v4
  h4 : 0 < v4.size
  b4 : bt v4 0 = 46
  e4 : v4.extract 1 v4.size = v5
  p5 : PI v5 z2 ⟨#[]⟩

def parsed3 (D z1 z2 : ByteArray) : Value := .agg #[.string D, .string z1, .string z2, .string ⟨#[]⟩, .string ⟨#[]⟩, .string ⟨#[]⟩]

set_option maxRecDepth 100000 in
set_option maxHeartbeats 2000000 in
theorem semver_good (s v1 v2 v3 v4 v5 D z1 z2 : ByteArray) (w : World) (h : Ver3 s v1 v2 v3 v4 v5 D z1 z2) :
    Calls Tryz.prog 143 #[.string s] w fun e w' => e = .returned (.tuple #[parsed3 D z1 z2, .bool true]) ∧ Below w.heap.size w w' := by
  obtain ⟨hpos, h118, e1, p1, h2, b2, e2, p2, h4, b4, e4, p5⟩ := h
  have g0 : (s[0]'hpos).toNat = bt s 0 := bt_get s 0 hpos
  have g2 : (v2[0]'h2).toNat = bt v2 0 := bt_get v2 0 h2
  have g4 : (v4[0]'h4).toNat = bt v4 0 := bt_get v4 0 h4
  have f0 : ((bt s 0 : Int) != 118) = false := by rw [h118]; rfl
  have f2 : ((bt v2 0 : Int) != 46) = false := by rw [b2]; rfl
  have f4 : ((bt v4 0 : Int) != 46) = false := by rw [b4]; rfl
  have n0 : s.toList.isEmpty = false := full_of_size (n := s.size - 1) (by omega)
  have n2 : v2.toList.isEmpty = false := full_of_size (n := v2.size - 1) (by omega)
  have n4 : v4.toList.isEmpty = false := full_of_size (n := v4.size - 1) (by omega)
  have i0 : (1 : Int) ≤ (s.size : Int) := by omega
  have i2 : (1 : Int) ≤ (v2.size : Int) := by omega
  have i4 : (1 : Int) ≤ (v4.size : Int) := by omega
  have P1 := hide p1
  have P2 := hide p2
  have P5 := hide p5
  clear h118 b2 b4 p1 p2 p5
  go_enter Tryz.func143, Tryz.ntmps143
  go_wp2_with fail
  go_fit (P1.out _)
  rintro e w1 ⟨rfl, n1, rfl⟩
  go_wp2_with fail
  go_fit (P2.out _)
  rintro e w1 ⟨rfl, n2, rfl⟩
  go_wp2_with fail
  go_fit (P5.out _)
  rintro e w1 ⟨rfl, n3, rfl⟩
  go_wp2_with fail
  refine (show ∀ W5 : World, Blk W5 w.heap.size 245 #[.string D, .string z1, .string z2, .string ⟨#[]⟩, .string ⟨#[]⟩, .string ⟨#[]⟩] → Below w.heap.size w W5 → bodyPost Tryz.prog _ _ Exit.ret _ W5 from fun W5 b5 hb5 => ?_) _
    ((((((((Blk.new w _ _).drewN n1).set 0 (.string D)).drewN n2).set 1 (.string z1)).drewN n3).set 2 (.string z2)).eq (by simp))
    ((Below.drewN' ((Below.drewN' ((Below.drewN' ((Below.refl _ w).alloc (Nat.le_refl _) _) n1).setCell (Nat.le_refl _) _) n2).setCell (Nat.le_refl _) _) n3).setCell (Nat.le_refl _) _)
  have q0 : W5.cell? ⟨w.heap.size, 0, none⟩ = some (.string D) := b5.cell 0 rfl
  have q1 : W5.cell? ⟨w.heap.size, 1, none⟩ = some (.string z1) := b5.cell 1 rfl
  have q2 : W5.cell? ⟨w.heap.size, 2, none⟩ = some (.string z2) := b5.cell 2 rfl
  have q3 : W5.cell? ⟨w.heap.size, 3, none⟩ = some (.string ⟨#[]⟩) := b5.cell 3 rfl
  have q4 : W5.cell? ⟨w.heap.size, 4, none⟩ = some (.string ⟨#[]⟩) := b5.cell 4 rfl
  have q5 : W5.cell? ⟨w.heap.size, 5, none⟩ = some (.string ⟨#[]⟩) := b5.cell 5 rfl
  exact bodyPost_ret (v := .tuple #[parsed3 D z1 z2, .bool true]) (by simp [results, Tryz.results143, go_sem, parsed3, q0, q1, q2, q3, q4, q5]) rfl ⟨rfl, hb5⟩

set_option maxRecDepth 100000 in
theorem canonical_good (s v1 v2 v3 v4 v5 D z1 z2 : ByteArray) (w : World) (h : Ver3 s v1 v2 v3 v4 v5 D z1 z2) :
    Calls Tryz.prog 139 #[.string s] w fun e w' => e = .returned (.string s) ∧ Below w.heap.size w w' := by
  go_enter Tryz.func139, Tryz.ntmps139
  go_wp2_with fail
  refine (semver_good s v1 v2 v3 v4 v5 D z1 z2 w h).mono ?_
  rintro e w1 ⟨rfl, hb⟩
  have HB := hide (hb.alloc hb.size (Obj.cells #[.string D, .string z1, .string z2, .string ⟨#[]⟩, .string ⟨#[]⟩, .string ⟨#[]⟩] 245))
  clear hb
  unfold parsed3
  go_wp2_with fail
  go_ret
  exact ⟨rfl, HB.out⟩

set_option maxRecDepth 100000 in
theorem build_good (s v1 v2 v3 v4 v5 D z1 z2 : ByteArray) (w : World) (h : Ver3 s v1 v2 v3 v4 v5 D z1 z2) :
    Calls Tryz.prog 113 #[.string s] w fun e w' => e = .returned (.string ⟨#[]⟩) ∧ Below w.heap.size w w' := by
  go_enter Tryz.func113, Tryz.ntmps113
  go_wp2_with fail
  refine (semver_good s v1 v2 v3 v4 v5 D z1 z2 w h).mono ?_
  rintro e w1 ⟨rfl, hb⟩
  have HB := hide (hb.alloc hb.size (Obj.cells #[.string D, .string z1, .string z2, .string ⟨#[]⟩, .string ⟨#[]⟩, .string ⟨#[]⟩] 245))
  clear hb
  unfold parsed3
  go_wp2_with fail
  go_ret
  exact ⟨rfl, HB.out⟩

set_option maxRecDepth 100000 in
theorem major_good (s v1 v2 v3 v4 v5 D z1 z2 : ByteArray) (w : World) (h : Ver3 s v1 v2 v3 v4 v5 D z1 z2) (hD : D.size ≤ 1000000) (hle : 1 + D.size ≤ s.size) :
    Calls Tryz.prog 112 #[.string s] w fun e w' => e = .returned (.string (s.extract 0 (1 + D.size))) ∧ Below w.heap.size w w' := by
  have z0 : (0 : Int) ≤ 1 + (D.size : Int) := by omega
  have z1' : 1 + (D.size : Int) ≤ (s.size : Int) := by omega
  have et : ((1 : Int) + (D.size : Int)).toNat = 1 + D.size := by omega
  go_enter Tryz.func112, Tryz.ntmps112
  go_wp2_with fail
  refine (semver_good s v1 v2 v3 v4 v5 D z1 z2 w h).mono ?_
  rintro e w1 ⟨rfl, hb⟩
  have HB := hide (hb.alloc hb.size (Obj.cells #[.string D, .string z1, .string z2, .string ⟨#[]⟩, .string ⟨#[]⟩, .string ⟨#[]⟩] 245))
  clear hb
  unfold parsed3
  go_wp2_with fail
  go_ret
  exact ⟨rfl, HB.out⟩

set_option maxRecDepth 100000 in
theorem canonicalVersion_good (s v1 v2 v3 v4 v5 D z1 z2 : ByteArray) (w : World) (h : Ver3 s v1 v2 v3 v4 v5 D z1 z2) :
    Calls Tryz.prog 108 #[.string s] w fun e w' => e = .returned (.string s) ∧ Below w.heap.size w w' := by
  go_enter Tryz.func108, Tryz.ntmps108
  go_wp2_with fail
  refine (canonical_good s v1 v2 v3 v4 v5 D z1 z2 w h).mono ?_
  rintro e w1 ⟨rfl, hb⟩
  have HB := hide hb
  clear hb
  go_wp2_with fail
  refine (build_good s v1 v2 v3 v4 v5 D z1 z2 w1 h).mono ?_
  rintro e w2 ⟨rfl, hb2⟩
  have HB2 := hide (HB.out.trans (hb2.mono HB.out.size))
  clear hb2
  go_wp2_with fail
  go_ret
  exact ⟨rfl, HB2.out⟩
end Go.Proofs.YtifkpibjeamfkaaGreatFmt
