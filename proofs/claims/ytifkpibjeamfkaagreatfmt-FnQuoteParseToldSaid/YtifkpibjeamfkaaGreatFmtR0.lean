/- What all rows of this seat share: the listed table, a world in which it lies, the stops. -/
import Derived.Test.YtifkpibjeamfkaaGreatFmtRows
import Derived.Test.YtifkpibjeamfkaaGreatFmtL6
import Derived.Lib.LaidTab
import Derived.Lib.LaidIn
import Derived.Lib.LaidU8
import Derived.ProofKit
import Derived.Stop.JoinedAt
import Derived.Stop.Texts
import Derived.Stop.JoinedTold
import Derived.SizedLaws
import Derived.SevenTiedAt
set_option linter.unusedVariables false
namespace Go.Proofs.YtifkpibjeamfkaaGreatFmt
open Go.ChangeShapes Go.WideShapes Go.ChangeAt Go.RowKit Go.Kit
open Go.Extern.Stop Go.Stop Go.Extern

theorem Tryz.own : ownKnob Tryz.prog.godebug = none := by kernel_rfl
theorem Tryz.laidOut : laidOutB Tryz.pinned.checked.prog = true := by kernel_rfl
theorem Tryz.stops : Tryz.pinned.checked.prog.stops = ["fmt.errorf"] := by kernel_rfl
theorem Tryz.stopKnobs : Tryz.pinned.checked.prog.stopKnobs = [] := by kernel_rfl
theorem Tryz.quiet (os : Os) : Stop.quiet Tryz.pinned.checked.prog os := by
  intro k hk
  rw [Tryz.stopKnobs] at hk
  cases hk

def dataInts : DataW Unit → List Int
  | .agg l => l.map fun | .lit (.int _ n) => n | _ => 0
  | _ => []
def zs : List Int := dataInts Rows.laid_unicode_properties
theorem zs_data : (Rows.laid_unicode_properties : DataW Unit) = Lib.tabData .u8 zs := by kernel_rfl
theorem zs_tab : ((List.range 128).all fun c => decide (0 ≤ zs.getD c 0) && decide (zs.getD c 0 < 256) && ((bits BinOp.and IntKind.u8 (zs.getD c 0) 128 != 0) == decide (32 ≤ c ∧ c ≤ 126))) = true := by kernel_rfl
theorem zs_len : zs.length = 256 := by kernel_rfl
theorem Tryz.gP : Tryz.prog.globalNamed "unicode.properties" = some 0 := by kernel_rfl

theorem prTab_of_laid {W : World} (h : laidMetH Tryz.prog [("unicode.properties", Rows.laid_unicode_properties)] W) : PrTab W ∧ 0 < W.heap.size := by
  have h1 : laidMet Tryz.prog [("unicode.properties", Rows.laid_unicode_properties)] W := h
  rw [zs_data] at h1
  have h2 : Lib.TabIs Tryz.prog W "unicode.properties" .u8 zs := Lib.tabIs_of_head (t := 184) (e := 5) (n := 256) Tryz.gP (by kernel_rfl) (by kernel_rfl) (by kernel_rfl) (by kernel_rfl) (by kernel_rfl) h1
  have hc : ∀ j, W.cell? ⟨0, j, none⟩ = (zs.map fun z => Value.int .u8 z).toArray[j]? := fun j => World.var?_cell Tryz.gP h2 j
  have ht := zs_tab
  rw [List.all_eq_true] at ht
  have hp : PrTab W := by
    intro c hcl
    have h3 := ht c (by simpa using hcl)
    simp only [Bool.and_eq_true, decide_eq_true_eq, beq_iff_eq] at h3
    refine ⟨zs.getD c 0, ?_, h3.1.1, h3.1.2, h3.2⟩
    rw [hc c]
    have hl : c < zs.length := by rw [zs_len]; omega
    simp [List.getD_eq_getElem?_getD, hl]
  obtain ⟨v, hv, _⟩ := hp 0 (by omega)
  exact ⟨hp, World.block_lt_of_cell? W _ hv⟩

noncomputable def laidWorld (os : Os) : World :=
  let w0 := World.holding Tryz.prog os ⟨#[], #[], []⟩
  { w0 with heap := w0.heap.modify 0 fun
      | .cells _ t frozen => .cells (zs.map (Value.int .u8)).toArray t frozen
      | o => o }
set_option maxRecDepth 1000000 in
theorem laid_met (os : Os) (args : Array Value) : laidMet Tryz.prog [("unicode.properties", Rows.laid_unicode_properties)] ((laidWorld os).forCall (fun _ _ => 0) ⟨#[], args, []⟩).memory :=
  (Go.LaidIn.of_run [0] 10 (by kernel_rfl) (by kernel_rfl) (by kernel_rfl) (by kernel_rfl)).met
end Go.Proofs.YtifkpibjeamfkaaGreatFmt
