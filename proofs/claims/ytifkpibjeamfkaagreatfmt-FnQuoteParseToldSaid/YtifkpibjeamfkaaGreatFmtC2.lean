/- (*File).add's closures that lay an error. -/
import Derived.Test.YtifkpibjeamfkaaGreatFmtC1
set_option linter.unusedVariables false
namespace Go.Proofs.YtifkpibjeamfkaaGreatFmt
open Go.RowKit Go.Proofs

theorem Tryz.infoErr : (Tryz.prog.info? 146).map (fun i => (i.zero.map (fun z => z.cells.size), i.size, i.bytes)) = some (some 7, 7, 88) := by kernel_rfl
theorem Tryz.und_errs : Tryz.prog.underlying 121 = some (.slice 146) := by kernel_rfl

/-- What the closures of add need: where the errors go, the file's tree, the line. -/
structure AddAt (w : World) (vE vF vL E f F L : Nat) (nm : ByteArray) (a1 a2 a3 : Int) : Prop where
  cE : w.cell? ⟨vE, 0, none⟩ = some (.pointer (some ⟨E, 0, none⟩))
  cF : w.cell? ⟨vF, 0, none⟩ = some (.pointer (some ⟨f, 0, none⟩))
  cL : w.cell? ⟨vL, 0, none⟩ = some (.pointer (some ⟨L, 0, none⟩))
  cS : w.cell? ⟨f, 10, none⟩ = some (.pointer (some ⟨F, 0, none⟩))
  cN : w.cell? ⟨F, 0, none⟩ = some (.string nm)
  c3 : w.cell? ⟨L, 3, none⟩ = some (.int .i64 a1)
  c4 : w.cell? ⟨L, 4, none⟩ = some (.int .i64 a2)
  c5 : w.cell? ⟨L, 5, none⟩ = some (.int .i64 a3)

theorem grown_keep {w w3 : World} {o : Obj} (hg : (w.drew.alloc o).grownBy w3 none) : Below w.heap.size w w3 := by
  have h1 : Below w.heap.size w (w.drew.alloc o) := (Below.refl _ w).drew.alloc (Nat.le_refl _) _
  exact h1.grown hg h1.size (fun k e => by cases e)
theorem AddAt.below {w w' : World} {vE vF vL E f F L : Nat} {nm : ByteArray} {a1 a2 a3 : Int} (h : AddAt w vE vF vL E f F L nm a1 a2 a3) (k : Below w.heap.size w w') : AddAt w' vE vF vL E f F L nm a1 a2 a3 := by
  obtain ⟨cE, cF, cL, cS, cN, c3, c4, c5⟩ := h
  exact ⟨(k.cell (World.block_lt_of_cell? w _ cE)).trans cE, (k.cell (World.block_lt_of_cell? w _ cF)).trans cF, (k.cell (World.block_lt_of_cell? w _ cL)).trans cL, (k.cell (World.block_lt_of_cell? w _ cS)).trans cS,
    (k.cell (World.block_lt_of_cell? w _ cN)).trans cN, (k.cell (World.block_lt_of_cell? w _ c3)).trans c3, (k.cell (World.block_lt_of_cell? w _ c4)).trans c4, (k.cell (World.block_lt_of_cell? w _ c5)).trans c5⟩

set_option maxRecDepth 100000 in
set_option maxHeartbeats 2000000 in
theorem add2_any (w : World) (vE vF vL E f F L : Nat) (nm : ByteArray) (a1 a2 a3 : Int) (t : TypeId) (v : Value) (h : AddAt w vE vF vL E f F L nm a1 a2 a3) (hE : Blk w E 121 #[.slice none 0 0])
    (n1 : vE ≠ E) (n2 : vF ≠ E) (n3 : vL ≠ E) (n4 : f ≠ E) (n5 : F ≠ E) (n6 : L ≠ E) :
    Calls Tryz.prog 65 #[.iface t v, .pointer (some ⟨vE, 0, none⟩), .pointer (some ⟨vF, 0, none⟩), .pointer (some ⟨vL, 0, none⟩)] w fun e w' => e = .returned (.tuple #[]) ∧ Kp (fun k => k = E) w w' ∧ ∃ g cap, Blk w' E 121 #[.slice (some ⟨g, 0, none⟩) 1 cap] := by
  obtain ⟨i0, hi0, hi1⟩ := Option.map_eq_some_iff.1 Tryz.infoErr
  simp only [Prod.mk.injEq] at hi1
  obtain ⟨z0, hz0, hz1⟩ := Option.map_eq_some_iff.1 hi1.1
  have hz2 := hi1.2.1
  have hz3 := hi1.2.2
  have HA := hide h
  obtain ⟨cE, cF, cL, cS, cN, c3, c4, c5⟩ := h
  have e0 : w.cell? ⟨E, 0, none⟩ = some (.slice none 0 0) := hE.cell 0 rfl
  have fE : ∀ j, w.frozen? ⟨E, j, none⟩ = false := fun j => hE.free j
  have wE := World.new_ne w _ cE
  have wF := World.new_ne w _ cF
  have wL := World.new_ne w _ cL
  have wS := World.new_ne w _ cS
  have wN := World.new_ne w _ cN
  have w3 := World.new_ne w _ c3
  have wl := hE.lt
  simp only at wE wF wL wS wN w3
  have HE := hide hE
  clear hE hi1
  go_enter Tryz.func65, Tryz.ntmps65
  go_wp2_with fail
  change Code.wp _ (Code.region _ #[_, _, _, id _, _, _, _, _, _, _, _, _, _, _, _, _, _, _, _, _, _] _) _ _ _
  go_region_held3 (fun w' => w'.cell? ⟨vE, 0, none⟩ = some (.pointer (some ⟨E, 0, none⟩)) ∧ w'.cell? ⟨vF, 0, none⟩ = some (.pointer (some ⟨f, 0, none⟩)) ∧ w'.cell? ⟨vL, 0, none⟩ = some (.pointer (some ⟨L, 0, none⟩)) ∧
      w'.cell? ⟨f, 10, none⟩ = some (.pointer (some ⟨F, 0, none⟩)) ∧ w'.cell? ⟨F, 0, none⟩ = some (.string nm) ∧ w'.cell? ⟨L, 3, none⟩ = some (.int .i64 a1) ∧ w'.cell? ⟨L, 4, none⟩ = some (.int .i64 a2) ∧ w'.cell? ⟨L, 5, none⟩ = some (.int .i64 a3)) (go_keep)
    ((refine step_append_lies _ (by rfl) _ _ _ (by rfl) 0 146 i0 _ 7 88 Tryz.und_errs hi0 hz0 hz2 hz3 hz1 (by omega) (.slice none 0 0) 0 [] (by rfl) ⟨rfl, Or.inl ⟨rfl, rfl⟩⟩ ⟨w.heap.size, 0, none⟩ 1 1 [.string nm, .int .i64 a1, .int .i64 a2, .int .i64 a3, .string ⟨#[]⟩, .string ⟨#[]⟩, .iface t v] (by rfl) (by rfl) (news_one _ _ _) (by simp [Value.oneCell']) (by omega) (by decide) (by decide) (by simp) (w.heap.size + 1) (by simp) ?_; intro gg cap w3' hown3 hgrow3 hat3 hlt3; have hbel := grown_keep hgrow3; clear hown3 hgrow3 hat3 hlt3; obtain ⟨dE, dF, dL, dS, dN, d3, d4, d5⟩ := HA.out.below hbel; have hEb := HE.out.kept (Kp.of_below (X := fun _ => False) hbel) (fun h => h); have d0 : w3'.cell? ⟨E, 0, none⟩ = some (.slice none 0 0) := hEb.cell 0 rfl; have fd : ∀ j, w3'.frozen? ⟨E, j, none⟩ = false := fun j => hEb.free j; have n1' := n1.symm; have n2' := n2.symm; have n3' := n3.symm; have n4' := n4.symm; have n5' := n5.symm; have n6' := n6.symm; have HEB := hide hEb; have HBEL := hide hbel; clear hEb hbel))
  all_goals go_wp2_with fail
  all_goals go_returns
  all_goals exact ⟨rfl, (Kp.of_below HBEL.out).set (fun _ => rfl), gg, cap, HEB.out.set 0 _⟩

set_option maxRecDepth 100000 in
set_option maxHeartbeats 2000000 in
theorem add1_any (w : World) (vE vF vL vV E f F L : Nat) (verb mp : ByteArray) (nm : ByteArray) (a1 a2 a3 : Int) (t : TypeId) (v : Value) (h : AddAt w vE vF vL E f F L nm a1 a2 a3) (hE : Blk w E 121 #[.slice none 0 0])
    (n1 : vE ≠ E) (n2 : vF ≠ E) (n3 : vL ≠ E) (n4 : f ≠ E) (n5 : F ≠ E) (n6 : L ≠ E) (cV : w.cell? ⟨vV, 0, none⟩ = some (.string verb)) (n7 : vV ≠ E) :
    Calls Tryz.prog 64 #[.string mp, .iface t v, .pointer (some ⟨vE, 0, none⟩), .pointer (some ⟨vF, 0, none⟩), .pointer (some ⟨vL, 0, none⟩), .pointer (some ⟨vV, 0, none⟩)] w fun e w' => e = .returned (.tuple #[]) ∧ Kp (fun k => k = E) w w' ∧ ∃ g cap, Blk w' E 121 #[.slice (some ⟨g, 0, none⟩) 1 cap] := by
  obtain ⟨i0, hi0, hi1⟩ := Option.map_eq_some_iff.1 Tryz.infoErr
  simp only [Prod.mk.injEq] at hi1
  obtain ⟨z0, hz0, hz1⟩ := Option.map_eq_some_iff.1 hi1.1
  have hz2 := hi1.2.1
  have hz3 := hi1.2.2
  have HA := hide h
  obtain ⟨cE, cF, cL, cS, cN, c3, c4, c5⟩ := h
  have e0 : w.cell? ⟨E, 0, none⟩ = some (.slice none 0 0) := hE.cell 0 rfl
  have fE : ∀ j, w.frozen? ⟨E, j, none⟩ = false := fun j => hE.free j
  have wE := World.new_ne w _ cE
  have wF := World.new_ne w _ cF
  have wL := World.new_ne w _ cL
  have wS := World.new_ne w _ cS
  have wN := World.new_ne w _ cN
  have wV := World.new_ne w _ cV
  have w3 := World.new_ne w _ c3
  have wl := hE.lt
  simp only at wE wF wL wS wN wV w3
  have HE := hide hE
  clear hE hi1
  go_enter Tryz.func64, Tryz.ntmps64
  go_wp2_with fail
  change Code.wp _ (Code.region _ #[_, _, _, id _, _, _, _, _, _, _, _, _, _, _, _, _, _, _, _, _, _, _, _] _) _ _ _
  go_region_held3 (fun w' => w'.cell? ⟨vE, 0, none⟩ = some (.pointer (some ⟨E, 0, none⟩)) ∧ w'.cell? ⟨vF, 0, none⟩ = some (.pointer (some ⟨f, 0, none⟩)) ∧ w'.cell? ⟨vL, 0, none⟩ = some (.pointer (some ⟨L, 0, none⟩)) ∧
      w'.cell? ⟨f, 10, none⟩ = some (.pointer (some ⟨F, 0, none⟩)) ∧ w'.cell? ⟨F, 0, none⟩ = some (.string nm) ∧ w'.cell? ⟨L, 3, none⟩ = some (.int .i64 a1) ∧ w'.cell? ⟨L, 4, none⟩ = some (.int .i64 a2) ∧ w'.cell? ⟨L, 5, none⟩ = some (.int .i64 a3) ∧ w'.cell? ⟨vV, 0, none⟩ = some (.string verb)) (go_keep)
    ((refine step_append_lies _ (by rfl) _ _ _ (by rfl) 0 146 i0 _ 7 88 Tryz.und_errs hi0 hz0 hz2 hz3 hz1 (by omega) (.slice none 0 0) 0 [] (by rfl) ⟨rfl, Or.inl ⟨rfl, rfl⟩⟩ ⟨w.heap.size, 0, none⟩ 1 1 [.string nm, .int .i64 a1, .int .i64 a2, .int .i64 a3, .string verb, .string mp, .iface t v] (by rfl) (by rfl) (news_one _ _ _) (by simp [Value.oneCell']) (by omega) (by decide) (by decide) (by simp) (w.heap.size + 1) (by simp) ?_; intro gg cap w3' hown3 hgrow3 hat3 hlt3; have hbel := grown_keep hgrow3; clear hown3 hgrow3 hat3 hlt3; obtain ⟨dE, dF, dL, dS, dN, d3, d4, d5⟩ := HA.out.below hbel; have hEb := HE.out.kept (Kp.of_below (X := fun _ => False) hbel) (fun h => h); have d0 : w3'.cell? ⟨E, 0, none⟩ = some (.slice none 0 0) := hEb.cell 0 rfl; have fd : ∀ j, w3'.frozen? ⟨E, j, none⟩ = false := fun j => hEb.free j; have dV : w3'.cell? ⟨vV, 0, none⟩ = some (.string verb) := (hbel.cell (p := ⟨vV, 0, none⟩) (World.block_lt_of_cell? w _ cV)).trans cV; have n7' := n7.symm; have n1' := n1.symm; have n2' := n2.symm; have n3' := n3.symm; have n4' := n4.symm; have n5' := n5.symm; have n6' := n6.symm; have HEB := hide hEb; have HBEL := hide hbel; clear hEb hbel))
  all_goals go_wp2_with fail
  all_goals go_returns
  all_goals exact ⟨rfl, (Kp.of_below HBEL.out).set (fun _ => rfl), gg, cap, HEB.out.set 0 _⟩
end Go.Proofs.YtifkpibjeamfkaaGreatFmt
