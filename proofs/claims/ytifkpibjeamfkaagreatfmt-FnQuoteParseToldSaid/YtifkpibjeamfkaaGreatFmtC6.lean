/- AutoQuote, parseString at a text that needs no quotes. -/
import Derived.Test.YtifkpibjeamfkaaGreatFmtC5
import Derived.Test.YtifkpibjeamfkaaGreatFmtC1
set_option linter.unusedVariables false
namespace Go.Proofs.YtifkpibjeamfkaaGreatFmt
open Go.RowKit Go.Proofs

theorem autoQuote_plain (s : ByteArray) (w : World) (hs : ∀ k, k < s.size → 32 ≤ bt s k ∧ bt s k ≤ 126) (hl : s.size ≤ 1000000) (hq : mqB s = false) (hpr : PrTab w) (hP : 0 < w.heap.size) :
    Calls Tryz.prog 39 #[.string s] w fun e w' => e = .returned (.string s) ∧ Below w.heap.size w w' := by
  have HS := hide hs
  have HQ := hide hq
  have HP := hide hpr
  clear hs hq hpr
  go_enter Tryz.func39, Tryz.ntmps39
  go_wp2_with fail
  refine (mustQuote_any s w HS.out hl HP.out hP).mono ?_
  rw [HQ.out]
  rintro e w1 ⟨rfl, hb⟩
  have HB := hide hb
  clear hb
  go_wp2_with fail
  go_ret
  exact ⟨rfl, HB.out⟩

set_option maxRecDepth 100000 in
set_option maxHeartbeats 1000000 in
theorem parseString_plain (R i : Nat) (cur : Array Value) (s : ByteArray) (w : World) (hR : Blk w R 9 cur) (hi : cur[i]? = some (.string s)) (hs : ∀ k, k < s.size → 32 ≤ bt s k ∧ bt s k ≤ 126 ∧ bt s k ≠ 34 ∧ bt s k ≠ 39 ∧ bt s k ≠ 96)
    (hf : Lib.hasPrefix s.data.toList [34] = false) (hl : s.size ≤ 1000000) (hq : mqB s = false) (hpr : PrTab w) (hP : 0 < w.heap.size) :
    Calls Tryz.prog 71 #[.pointer (some ⟨R, i, none⟩)] w fun e w' => e = .returned (.tuple #[.string s, .nilIface]) ∧ Below w.heap.size w w' := by
  have h0 : w.cell? ⟨R, i, none⟩ = some (.string s) := hR.cell i hi
  have HR := hide hR
  have HS := hide hs
  have HF := hide hf
  have HQ := hide hq
  have HP := hide hpr
  have HI := hide hi
  clear hR hs hf hq hpr hi
  go_enter Tryz.func71, Tryz.ntmps71
  go_wp2_with fail
  refine (hasPrefix_any s _ w).mono ?_
  rintro e w1 ⟨rfl, rfl⟩
  rw [show Lib.hasPrefix s.data.toList (⟨#[34]⟩ : ByteArray).data.toList = false from HF.out]
  go_wp2_with fail
  refine (containsAny_none s w (fun k hk => by have := HS.out k hk; omega)).mono ?_
  rintro e w2 ⟨rfl, hb2⟩
  have HB2 := hide hb2
  have hP2 : 0 < w2.heap.size := Nat.lt_of_lt_of_le hP hb2.size
  clear hb2
  go_wp2_with fail
  refine (autoQuote_plain s w2 (fun k hk => by have := HS.out k hk; omega) hl HQ.out (HP.out.keptT (N := w.heap.size) (S := fun _ => True) ⟨HB2.out, fun k cs t fz e hn => absurd True.intro hn⟩ hP) hP2).mono ?_
  rintro e w3 ⟨rfl, hb3⟩
  have hb13 : Below w.heap.size w w3 := HB2.out.trans (hb3.mono HB2.out.size)
  have hR3 := HR.out.kept (Kp.of_below (X := fun _ => False) hb13) (fun h => h)
  have c3 : w3.cell? ⟨R, i, none⟩ = some (.string s) := hR3.cell i HI.out
  have f3 : w3.frozen? ⟨R, i, none⟩ = false := hR3.free i
  have s3 : w3.setCell ⟨R, i, none⟩ (.string s) = w3 := hR3.set_id HI.out
  have HB3 := hide hb13
  clear hb13 hR3 hb3
  go_wp2_with fail
  go_returns
  exact ⟨rfl, HB3.out⟩
end Go.Proofs.YtifkpibjeamfkaaGreatFmt
