/- A quiet region in a round of a range over a function. -/
import Derived.RangeFuncCalls
import Derived.RangeFuncLeaves
import Derived.Sort.QuietIn
import Derived.Sort.BigQuietIn
import Derived.Sort.QuietTacIn
import Derived.Sort.QuietThIn
import Derived.TacticsIn
namespace Go.Proofs.YtifkpibjeamfkaaGreatFmt
open Go.RowKit Go.Proofs

theorem opIn_round {F : Fence} {n : Nat} {P : Program} {o : Oper} {a : Act} {w : World} {K : Act → World → Prop} {Q : Exit → Act → World → Prop} (r : Nat) (hro : F.round = none) (hd : ∀ c, o.op ≠ .defer c) (h : o.wpIn F n P a w K Q) :
    o.wpIn (F.inRound r) n P a w K Q := by
  unfold Oper.wpIn at h ⊢
  refine ⟨h.1, ?_⟩
  have h2 := h.2
  rw [hro, Oper.semAt_none] at h2
  show Oper.uponIn (F.inRound r) n P o a K Q ((Oper.semAt (some r) a.eval o).run P w)
  rw [Oper.semAt_some r a.eval o hd]
  generalize (execOp a.eval o).run P w = res at h2 ⊢
  cases res with
  | ok x w' => cases x <;> exact h2
  | halt x w' => cases x <;> exact h2

theorem opsIn_round {F : Fence} {n : Nat} {P : Program} {ops : Array Oper} {Q : Exit → Act → World → Prop} (r : Nat) (hro : F.round = none) (hd : ∀ o ∈ ops.toList, ∀ c, o.op ≠ .defer c) : ∀ (l : List Nat) (a : Act) (w : World), wpOpsIn F n P ops Q l a w → wpOpsIn (F.inRound r) n P ops Q l a w := by
  intro l
  induction l with
  | nil => intro a w h; exact h
  | cons i rest ih =>
    intro a w h
    rw [wpOpsIn_cons] at h ⊢
    unfold wpOpIn at h ⊢
    cases hi : ops[i]? with
    | none => simp only [hi] at h ⊢; exact ih a w h
    | some o =>
      simp only [hi] at h ⊢
      have hm : o ∈ ops.toList := by
        rw [← Array.getElem?_toList] at hi
        exact List.mem_of_getElem? hi
      split
      · rename_i hw
        simp only [hw, if_true] at h
        exact Oper.wpIn_mono (fun a w => ih a w) (opIn_round r hro (hd o hm) h)
      · rename_i hw
        simp only [hw] at h
        exact ⟨h.1, ih _ _ h.2⟩

theorem quiet_round {F : Fence} {n : Nat} {P : Program} {id : Nat} {Q : Exit → Act → World → Prop} {a : Act} {w : World} {l : List Oper} (r : Nat) (hro : F.round = none) (hm : P.follows .mixedOrders = true) (hB : Region.lexB .any l.toArray = true) (hd : ∀ o ∈ l, ∀ c, o.op ≠ .defer c)
    (h : wpQuietIn F n P l.toArray (fun w' => ∃ n, w' = w.drewN n) (fun a' => ∀ w', (∃ n, w' = w.drewN n) → Q .normal a' w') l a) : (Code.region id l.toArray true).wpIn (F.inRound r) n P Q a w := by
  refine wpIn_region_draw fun t => ?_
  simp only [Region.schedule, hm, Bool.true_or, if_true]
  refine opsIn_round r hro (by simpa using hd) _ _ _ ?_
  refine wpAnyIn_sound _ t _ a _ ?_
  simp only [Region.lexB, Bool.and_eq_true] at hB
  have := wpAnyQIn_lex (F := F) (n := n) (C := fun w' => ∃ n, w' = w.drewN n) (md := .any) hB.1 l 0 (Array.replicate l.toArray.size false) a (by simp) (by simpa using hB.2) h
  refine wpAnyIn_of_quiet (C := fun w' => ∃ n, w' = w.drewN n) (Q := fun a' => ∀ w', (∃ n, w' = w.drewN n) → Q .normal a' w') hro (fun _ w' hw' h => h w' hw') _ _ _ _ ⟨1, rfl⟩ ?_
  simpa using this
end Go.Proofs.YtifkpibjeamfkaaGreatFmt
