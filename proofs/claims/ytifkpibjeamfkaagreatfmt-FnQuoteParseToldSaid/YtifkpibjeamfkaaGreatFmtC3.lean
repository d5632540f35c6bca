/- zzContainsAny at a text without quotes; zzContains; MustQuote. -/
import Derived.Test.YtifkpibjeamfkaaGreatFmtL6
import Derived.Test.YtifkpibjeamfkaaGreatFmtS1
import Derived.Lib.OthersKept
import Derived.Laws.RangeString
import Derived.WalkSmall
set_option linter.unusedVariables false
namespace Go.Proofs.YtifkpibjeamfkaaGreatFmt
open Go.RowKit Go.Proofs

/-- A byte of a text, as a number. -/
def bt (s : ByteArray) (k : Nat) : Nat := (s.data.getD k 0).toNat
theorem bt_get (s : ByteArray) (k : Nat) (h : k < s.size) : (s[k]'h).toNat = bt s k := by
  simp only [bt, ByteArray.getElem_eq_getElem_data]
  rw [Array.getD_eq_getD_getElem?, Array.getElem?_eq_getElem h]
  rfl

def quotes : ByteArray := ⟨#[34, 39, 96]⟩

set_option maxRecDepth 100000 in
set_option maxHeartbeats 1000000 in
theorem indexAny_none (s : ByteArray) (w : World) (hs : ∀ k, k < s.size → bt s k < 128 ∧ bt s k ≠ 34 ∧ bt s k ≠ 39 ∧ bt s k ≠ 96) :
    Calls Tryz.prog 107 #[.string s, .string quotes] w fun e w' => e = .returned (.int .i64 (-1)) ∧ Below w.heap.size w w' := by
  have q0 : ∀ (W : World) (ty : TypeId), (Instr.next (.pointer (some ⟨W.heap.size, 0, none⟩)) true ty).run Tryz.prog (W.iter quotes 0) = .ok (.tuple #[.bool true, .int .i64 0, .int .i32 34]) (W.iter quotes 1) := fun W ty => run_next_ascii W quotes 0 ty (by decide) (by decide)
  have q1 : ∀ (W : World) (ty : TypeId), (Instr.next (.pointer (some ⟨W.heap.size, 0, none⟩)) true ty).run Tryz.prog (W.iter quotes 1) = .ok (.tuple #[.bool true, .int .i64 1, .int .i32 39]) (W.iter quotes 2) := fun W ty => run_next_ascii W quotes 1 ty (by decide) (by decide)
  have q2 : ∀ (W : World) (ty : TypeId), (Instr.next (.pointer (some ⟨W.heap.size, 0, none⟩)) true ty).run Tryz.prog (W.iter quotes 2) = .ok (.tuple #[.bool true, .int .i64 2, .int .i32 96]) (W.iter quotes 3) := fun W ty => run_next_ascii W quotes 2 ty (by decide) (by decide)
  have q3 : ∀ (W : World) (ty : TypeId), (Instr.next (.pointer (some ⟨W.heap.size, 0, none⟩)) true ty).run Tryz.prog (W.iter quotes 3) = .ok (.tuple #[.bool false]) (W.iter quotes 3) := fun W ty => run_next_end W quotes 3 ty (by decide)
  have hu : Tryz.prog.underlying 9 = some .string := by kernel_rfl
  have hrq : ∀ (W : World), (Instr.range 9 (.string quotes)).run Tryz.prog W = .ok (.pointer (some ⟨W.heap.size, 0, none⟩)) (W.iter quotes 0) := fun W => run_range_string W _ _ hu
  have hrs : ∀ (W : World), (Instr.range 9 (.string s)).run Tryz.prog W = .ok (.pointer (some ⟨W.heap.size, 0, none⟩)) (W.iter s 0) := fun W => run_range_string W _ _ hu
  have HS := hide hs
  clear hs
  go_enter Tryz.func107, Tryz.ntmps107
  go_wp2_with fail
  go_loopg [4, 5, 6, 8] s.size (fun k v4 v5 v6 v8 wr => Hid (∃ j, j + k = s.size ∧ wr.heap[w.heap.size]? = some (.stringIter s j) ∧ Below w.heap.size w wr))
  case atStart => exact hide ⟨0, by omega, World.iter_heap w s 0, (Below.refl _ w).alloc (Nat.le_refl _) _⟩
  case round =>
    obtain ⟨j, hj, hit, hb⟩ := hrel.out
    clear hrel
    have hwl : w.heap.size < wr.heap.size := (Array.getElem?_eq_some_iff.1 hit).1
    rcases Nat.lt_or_ge j s.size with hlt | hge
    · have hc := HS.out j hlt
      have hn : ∀ ty, (Instr.next (.pointer (some ⟨w.heap.size, 0, none⟩)) true ty).run Tryz.prog wr = .ok (.tuple #[.bool true, .int .i64 j, .int .i32 (bt s j : Nat)]) (wr.iterAt w.heap.size s (j + 1)) := by
        intro ty
        rw [Lib.run_next_ascii_at wr w.heap.size s j ty hit hlt (by rw [bt_get]; exact hc.1), bt_get]
      have hit2 := Lib.iterAt_heap wr w.heap.size s j (j + 1) hit
      have hb2 : Below w.heap.size w (wr.iterAt w.heap.size s (j + 1)) := Lib.below_iterAt hb (Nat.le_refl _) s (j + 1)
      have hsz := Lib.iterAt_size wr w.heap.size s (j + 1)
      generalize wr.iterAt w.heap.size s (j + 1) = W at hn hit2 hb2 hsz
      have f1 : ((bt s j : Int) == 34) = false := by simp only [beq_eq_false_iff_ne]; omega
      have f2 : ((bt s j : Int) == 39) = false := by simp only [beq_eq_false_iff_ne]; omega
      have f3 : ((bt s j : Int) == 96) = false := by simp only [beq_eq_false_iff_ne]; omega
      have hwl2 : w.heap.size < W.heap.size := by omega
      have HIT := hide hit2
      have HB := hide hb2
      clear hit hb hit2 hb2 hsz
      go_wp2_with fail
      refine wp_loop_rounds 4 ?_
      rw [rounds_succ]
      go_wp2_with fail
      rw [rounds_succ]
      go_wp2_with fail
      rw [rounds_succ]
      go_wp2_with fail
      rw [rounds_succ]
      go_wp2_with fail
      go_roundg (s.size - (j + 1))
      case measure => omega
      case rel =>
        refine hide ⟨j + 1, by omega, ?_, ?_⟩
        · exact (Below.heap_alloc _ _ _ (by omega)).trans HIT.out
        · exact HB.out.alloc (by omega) _
    · have hn : ∀ ty, (Instr.next (.pointer (some ⟨w.heap.size, 0, none⟩)) true ty).run Tryz.prog wr = .ok (.tuple #[.bool false]) wr := fun ty => Lib.run_next_end_at wr w.heap.size s j ty hit (by omega)
      have HB := hide hb
      clear hb hit
      go_wp2_with fail
      go_ret
      exact ⟨rfl, HB.out⟩

theorem containsAny_none (s : ByteArray) (w : World) (hs : ∀ k, k < s.size → bt s k < 128 ∧ bt s k ≠ 34 ∧ bt s k ≠ 39 ∧ bt s k ≠ 96) :
    Calls Tryz.prog 72 #[.string s, .string quotes] w fun e w' => e = .returned (.bool false) ∧ Below w.heap.size w w' := by
  go_enter Tryz.func72, Tryz.ntmps72
  go_wp2_with fail
  refine (indexAny_none s w hs).mono ?_
  rintro e w1 ⟨rfl, hb⟩
  have HB := hide hb
  clear hb hs
  go_wp2_with fail
  go_ret
  exact ⟨rfl, HB.out⟩
end Go.Proofs.YtifkpibjeamfkaaGreatFmt
