/- (*input).lex. -/
import Derived.Test.YtifkpibjeamfkaaGreatFmtP1
set_option linter.unusedVariables false
namespace Go.Proofs.YtifkpibjeamfkaaGreatFmt
open Go.RowKit Go.Proofs

def TkZero : Array Value := #[Value.int IntKind.i64 0, Value.int IntKind.i64 0, Value.int IntKind.i64 0, Value.int IntKind.i64 0, Value.int IntKind.i64 0, Value.int IntKind.i64 0, Value.int IntKind.i64 0, Value.string { data := #[] }]
def Tk.cells (t : Tk) (T : List UInt8) : Array Value := #[.int .i64 t.k, .int .i64 (lineAt T t.s : Nat), .int .i64 (colAt T t.s : Nat), .int .i64 (t.s : Nat), .int .i64 (lineAt T t.e : Nat), .int .i64 (colAt T t.e : Nat), .int .i64 (t.e : Nat), .string (txtOf T t)]

set_option maxHeartbeats 1000000 in
theorem lex_at (N : Nat) (σ : Lx) (w : World) (t t' : Tk) (h : At w σ t) (ht : TokAt σ.T t.e t') (hpr : PrTab w) (hP : 0 < N) (hN : N ≤ σ.B) :
    Calls Tryz.prog 95 #[.pointer (some ⟨σ.B, 0, none⟩)] w fun e w' => e = .returned (t.val σ.T) ∧ At w' σ t' ∧ Kt N (fun u => u = 155) w w' := by
  obtain ⟨q, ts, hsl, hx⟩ := h
  have h4 := hx.c4
  have h5 := hx.c5
  have h6 := hx.c6
  have h7 := hx.c7
  have h8 := hx.c8
  have h9 := hx.c9
  have h10 := hx.c10
  have h11 := hx.c11
  simp only [Lx.lexed] at h4 h5 h6 h7 h8 h9 h10 h11
  have hlt : σ.B < w.heap.size := hx.blk.lt
  have hne : w.heap.size ≠ σ.B := by omega
  have hne2 : w.heap.size + 1 ≠ σ.B := by omega
  have hne3 : σ.B ≠ w.heap.size := by omega
  have hne4 : σ.B ≠ w.heap.size + 1 := by omega
  have hNs : N ≤ w.heap.size := by omega
  have HX := hide hx
  have HP := hide hpr
  have HT := hide ht
  clear hpr ht hx
  go_enter Tryz.func95, Tryz.ntmps95
  go_wp2_with fail
  have k1 : Kt N (fun _ => False) w ((w.alloc (Obj.cells TkZero 153)).alloc (Obj.cells (t.cells σ.T) 153)) := ((Kt.refl _ _ _).alloc hNs _).alloc hNs _
  have b2 := (Blk.new w 153 TkZero).alloc (Obj.cells (t.cells σ.T) 153)
  have b3 := Blk.new (w.alloc (Obj.cells TkZero 153)) 153 (t.cells σ.T)
  rw [show (w.alloc (Obj.cells TkZero 153)).heap.size = w.heap.size + 1 from by simp] at b3
  change Calls _ _ _ ((w.alloc (Obj.cells TkZero 153)).alloc (Obj.cells (t.cells σ.T) 153)) _
  generalize ((w.alloc (Obj.cells TkZero 153)).alloc (Obj.cells (t.cells σ.T) 153)) = W at k1 b2 b3 ⊢
  have hrd := readToken_tok N _ W t' (HX.out.keptT k1 id id) hsl HT.out (HP.out.keptT k1 hP) hP hN
  refine hrd.mono ?_
  rintro e w2 ⟨rfl, hat, hk2⟩
  have d2 := b2.keptT hk2 (by decide)
  have d3 := b3.keptT hk2 (by decide)
  have k2 : Kt N (fun u => u = 155) w w2 := (k1.mono (fun _ h => h.elim)).trans hk2
  have r0 := d3.cell 0 rfl
  have z0 := d2.cell 0 rfl
  have r1 := d3.cell 1 rfl
  have z1 := d2.cell 1 rfl
  have r2 := d3.cell 2 rfl
  have z2 := d2.cell 2 rfl
  have r3 := d3.cell 3 rfl
  have z3 := d2.cell 3 rfl
  have r4 := d3.cell 4 rfl
  have z4 := d2.cell 4 rfl
  have r5 := d3.cell 5 rfl
  have z5 := d2.cell 5 rfl
  have r6 := d3.cell 6 rfl
  have z6 := d2.cell 6 rfl
  have r7 := d3.cell 7 rfl
  have z7 := d2.cell 7 rfl
  simp only [Tk.cells, TkZero, List.getElem_toArray, List.getElem_cons_zero, List.getElem_cons_succ] at r0 r1 r2 r3 r4 r5 r6 r7 z0 z1 z2 z3 z4 z5 z6 z7
  have f2 := fun j => d2.free j
  have hlt2 := d2.lt
  have hlt3 := d3.lt
  have D2 := hide d2
  have HA := hide hat
  have K2 := hide k2
  clear d2 d3 b2 b3 k1 hrd hat hk2 k2 h4 h5 h6 h7 h8 h9 h10 h11
  go_wp2
  refine bodyPost_ret (v := t.val σ.T) (by simp [results, Tryz.results95, go_sem, z0, z1, z2, z3, z4, z5, z6, z7, Tk.val]) rfl ⟨rfl, ?_, ?_⟩
  · refine At.keptT (N := N) (S := fun u => u = 153) (σ := σ.lexed q ts t.k t.s t.e (txtOf σ.T t)) HA.out ?_ (by decide) (by decide)
    repeat (refine Kt.set_blk ?_ hNs D2.out rfl)
    exact Kt.refl _ _ _
  · repeat (refine Kt.set_new ?_ hNs (Nat.le_refl _))
    exact K2.out
end Go.Proofs.YtifkpibjeamfkaaGreatFmt
