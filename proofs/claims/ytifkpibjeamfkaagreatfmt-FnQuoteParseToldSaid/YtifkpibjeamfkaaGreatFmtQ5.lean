/- utf8.ValidString at a text of ASCII signs. -/
import Derived.Test.YtifkpibjeamfkaaGreatFmtQ1
import Derived.Test.YtifkpibjeamfkaaGreatFmtC12
import Derived.Deep.DeepMust
import Derived.Deep.LoopGhost
import Derived.Laws.BitsAllLaws
import Derived.Lib.ValidAsc
import Derived.Deep.Draws
import Derived.Deep.QuietTactic
import Derived.Deep.DeepBigQuietO
import Derived.Shelf.RegionOpenPlain
set_option linter.unusedVariables false
namespace Go.Proofs.YtifkpibjeamfkaaGreatFmt
open Go.RowKit Go.Proofs

def wordZ (s : ByteArray) : Int := (bits .or .u64 (bits .or .u64 (bits .or .u64 (bits .or .u64 (bits .or .u64 (bits .or .u64 (bits .or .u64 (IntKind.u64.wrap (bt s 0 : Nat)) (IntKind.u64.wrap (IntKind.u64.wrap (bt s 1 : Nat) * 256))) (IntKind.u64.wrap (IntKind.u64.wrap (bt s 2 : Nat) * 65536))) (IntKind.u64.wrap (IntKind.u64.wrap (bt s 3 : Nat) * 16777216))) (IntKind.u64.wrap (IntKind.u64.wrap (bt s 4 : Nat) * 4294967296))) (IntKind.u64.wrap (IntKind.u64.wrap (bt s 5 : Nat) * 1099511627776))) (IntKind.u64.wrap (IntKind.u64.wrap (bt s 6 : Nat) * 281474976710656))) (IntKind.u64.wrap (IntKind.u64.wrap (bt s 7 : Nat) * 72057594037927936)))

set_option maxHeartbeats 8000000 in
set_option maxRecDepth 100000 in
theorem word_any (s : ByteArray) (w : World) (hs : 8 ≤ s.size) :
    Calls Tryz.prog 181 #[.string s] w fun e w' => e = .returned (.int .u64 (wordZ s)) ∧ ∃ q, w' = w.drewN q := by
  have mixed : Tryz.prog.follows Departure.mixedOrders = true := by kernel_rfl
  have q0 : (0 : Int) < (s.size : Int) := by omega
  have q1 : (1 : Int) < (s.size : Int) := by omega
  have q2 : (2 : Int) < (s.size : Int) := by omega
  have q3 : (3 : Int) < (s.size : Int) := by omega
  have q4 : (4 : Int) < (s.size : Int) := by omega
  have q5 : (5 : Int) < (s.size : Int) := by omega
  have q6 : (6 : Int) < (s.size : Int) := by omega
  have q7 : (7 : Int) < (s.size : Int) := by omega
  have p0 : 0 < s.size := by omega
  have p1 : 1 < s.size := by omega
  have p2 : 2 < s.size := by omega
  have p3 : 3 < s.size := by omega
  have p4 : 4 < s.size := by omega
  have p5 : 5 < s.size := by omega
  have p6 : 6 < s.size := by omega
  have p7 : 7 < s.size := by omega
  have hg0 : (s[0]'p0).toNat = bt s 0 := bt_get s 0 p0
  have hg1 : (s[1]'p1).toNat = bt s 1 := bt_get s 1 p1
  have hg2 : (s[2]'p2).toNat = bt s 2 := bt_get s 2 p2
  have hg3 : (s[3]'p3).toNat = bt s 3 := bt_get s 3 p3
  have hg4 : (s[4]'p4).toNat = bt s 4 := bt_get s 4 p4
  have hg5 : (s[5]'p5).toNat = bt s 5 := bt_get s 5 p5
  have hg6 : (s[6]'p6).toNat = bt s 6 := bt_get s 6 p6
  have hg7 : (s[7]'p7).toNat = bt s 7 := bt_get s 7 p7
  go_enter Tryz.func181, Tryz.ntmps181
  go_wp2
  go_quiet_o (fail)
  go_wp2
  go_ret
  exact ⟨rfl, _, rfl⟩

def A7 (t : ByteArray) : Prop := ∀ c ∈ t.data.toList, c.toNat < 128
theorem A7.ext {t : ByteArray} (h : A7 t) (k : Nat) : A7 (t.extract k t.size) := by
  intro c hc
  rw [Lib.ext_list] at hc
  exact h c (List.mem_of_mem_drop hc)
theorem A7.at {t : ByteArray} (h : A7 t) (h0 : 0 < t.size) : bt t 0 < 128 := by
  rw [bt_ch]
  obtain ⟨c, hc, e⟩ := ch_mem (bsl t) 0 (by rw [bsl_len]; exact h0)
  rw [e]; exact h c hc

def Drew (w w' : World) : Prop := ∃ q, w' = w.drewN q
theorem Drew.more {w w' : World} (h : Drew w w') (q : Nat) : Drew w (w'.drewN q) := by
  obtain ⟨n, rfl⟩ := h
  exact ⟨n + q, by rw [World.drewN_drewN]⟩

/-- At the head of ValidString's loops: what is left. -/
def VInv (n : Nat) (w : World) (g : Nat) (v : Value) (wx : World) : Prop := ∃ t : ByteArray, v = .string t ∧ A7 t ∧ t.size < g ∧ t.size ≤ n ∧ Drew w wx

set_option maxHeartbeats 2000000 in
set_option maxRecDepth 100000 in
theorem validString_ascii (s : ByteArray) (w : World) (ha : A7 s) (hs : s.size ≤ 1000000) :
    Calls Tryz.prog 167 #[.string s] w fun e w' => e = .returned (.bool true) ∧ ∃ q, w' = w.drewN q := by
  have mixed : Tryz.prog.follows Departure.mixedOrders = true := by kernel_rfl
  have HA := hide ha
  clear ha
  have e181 : ∀ args w, (callFunc 181 args).run Tryz.prog w = .ok (.enter 181 args) w := enters_of Tryz.func181 (by kernel_rfl) rfl
  go_enter Tryz.func167, Tryz.ntmps167
  go_wp2
  go_loopg [0] (s.size + 1) (fun gk s0 wx => Hid (VInv s.size w gk s0 wx))
  case atStart => exact hide ⟨s, rfl, HA.out, by omega, by omega, 0, rfl⟩
  case round =>
    obtain ⟨t, rfl, hat, hg, hts, hd⟩ := hrel.out
    have HD := hide hd
    clear hrel hd
    by_cases h0 : 0 < t.size
    · obtain ⟨g', rfl⟩ : ∃ g', gk = g' + 1 := ⟨gk - 1, by omega⟩
      have h0z : (0 : Int) < (t.size : Int) := by omega
      have hb0 : (t[0]'h0).toNat = bt t 0 := bt_get t 0 h0
      have hb1 : (bt t 0 : Int) < 128 := by have := hat.at h0; omega
      have h1z : (1 : Int) ≤ (t.size : Int) := by omega
      obtain ⟨t1, ht1⟩ : ∃ t1, t.extract 1 t.size = t1 := ⟨_, rfl⟩
      have z1 : t1.size + 1 = t.size := by rw [← ht1, Lib.ext_size]; omega
      have HA1 : Hid (A7 t1) := hide (by rw [← ht1]; exact hat.ext 1)
      clear hat
      by_cases c8 : 8 < t1.size
      · have c8z : (8 : Int) < (t1.size : Int) := by omega
        have s8a : (8 : Int) ≤ (t1.size : Int) := by omega
        have cW1 := fun W => word_any t1 W (by omega)
        obtain ⟨A1, hA1⟩ : ∃ A1, wordZ t1 = A1 := ⟨_, rfl⟩
        rw [hA1] at cW1
        obtain ⟨Z1, hand1⟩ : ∃ Z1, bits .and .u64 A1 9259542123273814144 = Z1 := ⟨_, rfl⟩
        by_cases hz1 : Z1 = 0
        · have hz1b : (Z1 == 0) = true := by simp [hz1]
          clear hz1
          obtain ⟨t2, ht2⟩ : ∃ t2, t1.extract 8 t1.size = t2 := ⟨_, rfl⟩
          have z2 : t2.size + 8 = t1.size := by rw [← ht2, Lib.ext_size]; omega
          have HA2 : Hid (A7 t2) := hide (by rw [← ht2]; exact HA1.out.ext 8)
          go_wp2_with fail
          refine (cW1 _).mono ?_
          rintro e W1 ⟨rfl, q1, rfl⟩
          have HD1 := hide (HD.out.more q1)
          generalize wr.drewN q1 = wq at HD1 ⊢
          clear HD
          go_wp2_with fail
          clear cW1
          by_cases c16 : 16 < t2.size
          · have c16z : (16 : Int) < (t2.size : Int) := by omega
            have s8z : (8 : Int) ≤ (t2.size : Int) := by omega
            obtain ⟨t2b, ht2b⟩ : ∃ t2b, t2.extract 8 t2.size = t2b := ⟨_, rfl⟩
            have z2b : t2b.size + 8 = t2.size := by rw [← ht2b, Lib.ext_size]; omega
            have cW2 := fun W => word_any t2 W (by omega)
            have cW3 := fun W => word_any t2b W (by omega)
            obtain ⟨A2, hA2⟩ : ∃ A2, wordZ t2 = A2 := ⟨_, rfl⟩
            obtain ⟨A3, hA3⟩ : ∃ A3, wordZ t2b = A3 := ⟨_, rfl⟩
            rw [hA2] at cW2
            rw [hA3] at cW3
            obtain ⟨O2, hor2⟩ : ∃ O2, bits .or .u64 A2 A3 = O2 := ⟨_, rfl⟩
            obtain ⟨Z2, hand2⟩ : ∃ Z2, bits .and .u64 O2 9259542123273814144 = Z2 := ⟨_, rfl⟩
            by_cases hz2 : Z2 = 0
            · have hz2b : (Z2 == 0) = true := by simp [hz2]
              clear hz2
              obtain ⟨t3, ht3⟩ : ∃ t3, t2.extract 16 t2.size = t3 := ⟨_, rfl⟩
              have z3 : t3.size + 16 = t2.size := by rw [← ht3, Lib.ext_size]; omega
              have s16z : (16 : Int) ≤ (t2.size : Int) := by omega
              have HA3 : Hid (A7 t3) := hide (by rw [← ht3]; exact HA2.out.ext 16)
              go_big_quiet_o (first | (with_reducible refine Calls.quiet_of (cW2 _)) | (with_reducible refine Calls.quiet_of (cW3 _)))
              have HD2 := hide (HD1.out.more nq)
              generalize wq.drewN nq = wq2 at HD2 ⊢
              clear cW2 cW3 HD1
              go_wp2
              go_loopg [0] (t3.size + 1) (fun g2 s0 wx => Hid (VInv t3.size w g2 s0 wx))
              case atStart => exact hide ⟨t3, rfl, HA3.out, by omega, by omega, HD2.out⟩
              case round =>
                obtain ⟨u, rfl, hau, hgu, hut, hdu⟩ := hrel.out
                have HDU := hide hdu
                clear hrel hdu
                by_cases c32 : 32 < u.size
                · obtain ⟨g3, rfl⟩ : ∃ g3, gk = g3 + 1 := ⟨gk - 1, by omega⟩
                  have c32z : (32 : Int) < (u.size : Int) := by omega
                  have s8u : (8 : Int) ≤ (u.size : Int) := by omega
                  have s16u : (16 : Int) ≤ (u.size : Int) := by omega
                  have s24u : (24 : Int) ≤ (u.size : Int) := by omega
                  have s32u : (32 : Int) ≤ (u.size : Int) := by omega
                  obtain ⟨ub, hub⟩ : ∃ ub, u.extract 8 u.size = ub := ⟨_, rfl⟩
                  have zub : ub.size + 8 = u.size := by rw [← hub, Lib.ext_size]; omega
                  obtain ⟨uc, huc⟩ : ∃ uc, u.extract 16 u.size = uc := ⟨_, rfl⟩
                  have zuc : uc.size + 16 = u.size := by rw [← huc, Lib.ext_size]; omega
                  obtain ⟨ud, hud⟩ : ∃ ud, u.extract 24 u.size = ud := ⟨_, rfl⟩
                  have zud : ud.size + 24 = u.size := by rw [← hud, Lib.ext_size]; omega
                  have cB0 := fun W => word_any u W (by omega)
                  have cB1 := fun W => word_any ub W (by omega)
                  have cB2 := fun W => word_any uc W (by omega)
                  have cB3 := fun W => word_any ud W (by omega)
                  obtain ⟨B0, hB0⟩ : ∃ B0, wordZ u = B0 := ⟨_, rfl⟩
                  obtain ⟨B1, hB1⟩ : ∃ B1, wordZ ub = B1 := ⟨_, rfl⟩
                  obtain ⟨B2, hB2⟩ : ∃ B2, wordZ uc = B2 := ⟨_, rfl⟩
                  obtain ⟨B3, hB3⟩ : ∃ B3, wordZ ud = B3 := ⟨_, rfl⟩
                  rw [hB0] at cB0
                  rw [hB1] at cB1
                  rw [hB2] at cB2
                  rw [hB3] at cB3
                  obtain ⟨P1, ho1⟩ : ∃ P1, bits .or .u64 B0 B1 = P1 := ⟨_, rfl⟩
                  obtain ⟨P2, ho2⟩ : ∃ P2, bits .or .u64 B2 B3 = P2 := ⟨_, rfl⟩
                  obtain ⟨P3, ho3⟩ : ∃ P3, bits .or .u64 P1 P2 = P3 := ⟨_, rfl⟩
                  obtain ⟨Z3, hand3⟩ : ∃ Z3, bits .and .u64 P3 9259542123273814144 = Z3 := ⟨_, rfl⟩
                  by_cases hz3 : Z3 = 0
                  · have hz3b : (Z3 == 0) = true := by simp [hz3]
                    clear hz3
                    obtain ⟨u2, hu2⟩ : ∃ u2, u.extract 32 u.size = u2 := ⟨_, rfl⟩
                    have zu2 : u2.size + 32 = u.size := by rw [← hu2, Lib.ext_size]; omega
                    have HAU : Hid (A7 u2) := hide (by rw [← hu2]; exact hau.ext 32)
                    clear hau
                    go_wp2_with fail
                    go_big_quiet_o (first | (with_reducible refine Calls.quiet_of (cB0 _)) | (with_reducible refine Calls.quiet_of (cB1 _)) | (with_reducible refine Calls.quiet_of (cB2 _)) | (with_reducible refine Calls.quiet_of (cB3 _)))
                    go_wp2
                    go_roundg g3
                    case measure => omega
                    case rel => exact hide ⟨u2, rfl, HAU.out, by omega, by omega, HDU.out.more nq⟩
                  · have hz3b : (Z3 == 0) = false := by simp [hz3]
                    have HAU := hide hau
                    clear hz3 hau
                    go_wp2_with fail
                    go_big_quiet_o (first | (with_reducible refine Calls.quiet_of (cB0 _)) | (with_reducible refine Calls.quiet_of (cB1 _)) | (with_reducible refine Calls.quiet_of (cB2 _)) | (with_reducible refine Calls.quiet_of (cB3 _)))
                    go_wp2
                    go_roundg g'
                    case measure => omega
                    case rel => exact hide ⟨u, rfl, HAU.out, by omega, by omega, HDU.out.more nq⟩
                · have c32z : ¬ ((32 : Int) < (u.size : Int)) := by omega
                  have c32b : decide ((32 : Int) < (u.size : Int)) = false := decide_eq_false c32z
                  have HAU := hide hau
                  clear hau
                  go_wp2_with fail
                  go_big_quiet_o (fail)
                  go_wp2
                  go_roundg g'
                  case measure => omega
                  case rel => exact hide ⟨u, rfl, HAU.out, by omega, by omega, HDU.out.more nq⟩
            · have hz2b : (Z2 == 0) = false := by simp [hz2]
              clear hz2
              go_big_quiet_o (first | (with_reducible refine Calls.quiet_of (cW2 _)) | (with_reducible refine Calls.quiet_of (cW3 _)))
              go_wp2
              go_roundg g'
              case measure => omega
              case rel => exact hide ⟨t2, rfl, HA2.out, by omega, by omega, HD1.out.more nq⟩
          · have c16z : ¬ ((16 : Int) < (t2.size : Int)) := by omega
            have c16b : decide ((16 : Int) < (t2.size : Int)) = false := decide_eq_false c16z
            go_big_quiet_o (fail)
            go_wp2
            go_roundg g'
            case measure => omega
            case rel => exact hide ⟨t2, rfl, HA2.out, by omega, by omega, HD1.out.more nq⟩
        · have hz1b : (Z1 == 0) = false := by simp [hz1]
          clear hz1
          go_wp2_with fail
          refine (cW1 _).mono ?_
          rintro e W1 ⟨rfl, q1, rfl⟩
          have HD1 := hide (HD.out.more q1)
          generalize wr.drewN q1 = wq at HD1 ⊢
          clear HD
          go_wp2_with fail
          go_roundg g'
          case measure => omega
          case rel => exact hide ⟨t1, rfl, HA1.out, by omega, by omega, HD1.out⟩
      · have c8z : ¬ ((8 : Int) < (t1.size : Int)) := by omega
        go_wp2
        go_roundg g'
        case measure => omega
        case rel => exact hide ⟨t1, rfl, HA1.out, by omega, by omega, HD.out⟩
    · have h0z : ¬ ((0 : Int) < (t.size : Int)) := by omega
      go_wp2
      go_ret
      exact ⟨rfl, HD.out⟩
end Go.Proofs.YtifkpibjeamfkaaGreatFmt
