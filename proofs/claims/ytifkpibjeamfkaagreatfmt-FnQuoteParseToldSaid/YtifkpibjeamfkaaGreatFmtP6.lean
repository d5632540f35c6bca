/- slices.Backward over a tree's order. -/
import Derived.RangeFuncNested
import Derived.RangeFuncBound
import Derived.RangeFuncCalls
import Derived.RangeFuncLeaves
import Derived.RangeFuncBox
import Derived.RangeFuncFrom
import Derived.Shelf.Abstract
import Derived.Shelf.RegionOpen
import Derived.OwnWalkIn
import Derived.TacticsInMore
import Derived.LoopNIn
import Derived.LoopIn
import Derived.Test.YtifkpibjeamfkaaGreatFmtB0
set_option linter.unusedVariables false
namespace Go.Proofs.YtifkpibjeamfkaaGreatFmt
open Go.RowKit Go.Shelf Go.Proofs

attribute [local go_sem] Oper.semAt_some

/-- The place of an element, and the element. -/
def backEnc (zs : List Value) (i : Fin zs.length) : Array Value := #[.int .i64 (i.1 : Int), zs[i.1]]

set_option maxRecDepth 100000 in
set_option maxHeartbeats 2000000 in
theorem back1_in (F : Fence) (n : Nat) (h8 : F.fn 134) (hro : F.round = none) (hn : 1 ≤ n) (l Bs n₀ b cap : Nat) (zs : List Value) (hreach : zs.length ≤ 1000000) (hb : b < n₀) (J Jx : List (Fin zs.length) → World → Prop)
    (hY : ∀ pre x W, J pre W → pre.length < zs.length → YieldAt F (n - 1) Tryz.prog l (backEnc zs x) W fun e W' =>
      (e = .returned (.bool true) ∧ J (pre ++ [x]) W' ∧ Below n₀ W W') ∨ (e = .returned (.bool false) ∧ Jx (pre ++ [x]) W'))
    (W : World) (hBs : W.cell? ⟨Bs, 0, none⟩ = some (.slice (some ⟨b, 0, none⟩) zs.length cap)) (hBl : Bs < n₀) (hc : ∀ j (h : j < zs.length), W.cell? ⟨b, j, none⟩ = some zs[j]) (h0 : J [] W) :
    CallsIn F n Tryz.prog 134 #[.func (.yield l) #[] #[], .pointer (some ⟨Bs, 0, none⟩)] W fun e W' => (∃ v, e = .returned v) ∧
      ((∃ ys, True ∧ J ys W') ∨ (∃ pre, True ∧ Jx pre W')) := by
  refine callsIn_of_wp Tryz.func134 rfl h8 ?_ hro
  simp only [Tryz.ntmps134, List.size_toArray, List.length_cons, List.length_nil, Nat.reduceAdd, Nat.reduceSub, Array.replicate_succ, Array.replicate_zero, List.push_toArray, List.append_toArray, List.nil_append, List.cons_append]
  have hw : wrap64 ((zs.length : Int) - 1) = (zs.length : Int) - 1 := by unfold wrap64; omega
  gi_wp2
  gi_loopw [3] (fun i wr => ∃ (k : Nat) (pre : List (Fin zs.length)), k ≤ zs.length ∧ pre.length = zs.length - k ∧ i = .int .i64 ((k : Int) - 1) ∧ J pre wr ∧ Below n₀ W wr)
    (fun i _ => (intOf i + 1).toNat)
  case atStart => exact ⟨zs.length, [], Nat.le_refl _, by simp, by first | rfl | simp [hw], h0, Below.refl _ _⟩
  case round =>
    obtain ⟨k, pre, hk, hp, rfl, hJs, hnx⟩ := hrel
    have hBs' : wr.cell? ⟨Bs, 0, none⟩ = some (.slice (some ⟨b, 0, none⟩) zs.length cap) := (hnx.cell (p := ⟨Bs, 0, none⟩) hBl).trans hBs
    rcases Nat.eq_zero_or_pos k with hk0 | hk0
    · subst hk0
      gi_wp2
      go_end0
      exact ⟨⟨_, rfl⟩, .inl ⟨pre, True.intro, hJs⟩⟩
    · obtain ⟨j, rfl⟩ : ∃ j, k = j + 1 := ⟨k - 1, by omega⟩
      have hj : j < zs.length := by omega
      obtain ⟨fn, tmps, assign, body, hy, hR⟩ := hY pre ⟨j, hj⟩ wr hJs (by omega)
      have he : ((j + 1 : Nat) : Int) - 1 = (j : Int) := by omega
      rw [he]
      have hcx : wr.cell? ⟨b, j, none⟩ = some zs[j] := (hnx.cell (p := ⟨b, j, none⟩) hb).trans (hc j hj)
      have hw2 : wrap64 ((j : Int) - 1) = (j : Int) - 1 := by unfold wrap64; omega
      simp only [backEnc] at hy
      gi_wp2
      refine hR.mono ?_
      rintro e W3 (⟨rfl, hJ3, hk3⟩ | ⟨rfl, hJx3⟩)
      · gi_wp2
        go_roundw
        case rel => exact ⟨j, _, by omega, by (have := hp; simp <;> omega), by first | rfl | simp [hw2], hJ3, hnx.trans hk3⟩
        case measure => simp [intOf] <;> omega
      · gi_wp2
        refine bodyPost_ret (results_none rfl _ _ _) rfl ?_
        exact ⟨⟨_, rfl⟩, .inr ⟨_, True.intro, hJx3⟩⟩

set_option maxHeartbeats 1000000 in
theorem back_in (F : Fence) (n : Nat) (h5 : F.fn 99) (hro : F.round = none) (a : Option Addr) (len cap : Nat) (w : World) :
    CallsIn F n Tryz.prog 99 #[.slice a len cap] w fun e w' => e = .returned (.func (.func 134) #[] #[.pointer (some ⟨w.heap.size, 0, none⟩)]) ∧ w' = w.alloc (.cells #[.slice a len cap] 127) := by
  refine callsIn_of_wp Tryz.func99 rfl h5 ?_ hro
  simp only [Tryz.ntmps99, List.size_toArray, List.length_cons, List.length_nil, Nat.reduceAdd, Nat.reduceSub, Array.replicate_succ, Array.replicate_zero, List.push_toArray, List.append_toArray, List.nil_append, List.cons_append]
  gi_wp2
  go_ret
  exact ⟨rfl, rfl⟩

theorem back_stops (F : Fence) (n : Nat) (h8 : F.fn 134) (hro : F.round = none) (hn : 1 ≤ n) (Bs n₀ b cap : Nat) (zs : List Value) (hreach : zs.length ≤ 1000000) (w : World) (hBs : Bs < n₀) (hb : b < n₀) (hn₀ : n₀ ≤ w.heap.size)
    (hc : w.cell? ⟨Bs, 0, none⟩ = some (.slice (some ⟨b, 0, none⟩) zs.length cap)) (hI : ∀ j (h : j < zs.length), w.cell? ⟨b, j, none⟩ = some zs[j]) :
    SeqStopsK F n Tryz.prog 134 #[.pointer (some ⟨Bs, 0, none⟩)] (backEnc zs) (Below n₀) (fun _ => True) (fun _ => True) zs.length w := fun l J Jx W hW _ _ hY h0 =>
  back1_in F n h8 hro hn l Bs n₀ b cap zs hreach hb J Jx hY W (((hW.mono hn₀).cell (p := ⟨Bs, 0, none⟩) hBs).trans hc) hBs (fun j h => ((hW.mono hn₀).cell (p := ⟨b, j, none⟩) hb).trans (hI j h)) h0
end Go.Proofs.YtifkpibjeamfkaaGreatFmt
