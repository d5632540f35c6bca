/- Span, Comment, reverseComments. -/
import Derived.Test.YtifkpibjeamfkaaGreatFmtP5
set_option linter.unusedVariables false
namespace Go.Proofs.YtifkpibjeamfkaaGreatFmt
open Go.RowKit Go.Proofs

theorem comment_any (v : Value) (w : World) : Calls Tryz.prog 96 #[v] w fun e w' => e = .returned v ∧ w = w' := by
  go_enter Tryz.func96, Tryz.ntmps96
  go_wp2
  go_ret
  exact ⟨rfl, rfl⟩

theorem reverse_nil (w : World) : Calls Tryz.prog 100 #[.slice none 0 0] w fun e w' => e = .returned (.tuple #[]) ∧ w = w' := by
  go_enter Tryz.func100, Tryz.ntmps100
  go_wp2
  go_loopg [2, 3] 0 (fun k a b wr => k = 0 ∧ a = .int .i64 0 ∧ b = .int .i64 (-1) ∧ wr = w)
  case atStart => exact ⟨rfl, rfl, rfl, rfl⟩
  case round =>
    obtain ⟨rfl, rfl, rfl, rfl⟩ := hrel
    go_wp2
    go_returns
    exact ⟨rfl, rfl⟩

/-- Three places of one position. -/
def posV (a b c : Int) : Value := .agg #[.int .i64 a, .int .i64 b, .int .i64 c]

set_option maxRecDepth 100000 in
theorem span_line (w : World) (L : Nat) (cs : Array Value) (a1 a2 a3 b1 b2 b3 : Int) (hL : Blk w L 136 cs)
    (h3 : cs[3]? = some (.int .i64 a1)) (h4 : cs[4]? = some (.int .i64 a2)) (h5 : cs[5]? = some (.int .i64 a3)) (h8 : cs[8]? = some (.int .i64 b1)) (h9 : cs[9]? = some (.int .i64 b2)) (h10 : cs[10]? = some (.int .i64 b3)) :
    Calls Tryz.prog 211 #[.pointer (some ⟨L, 0, none⟩)] w fun e w' => e = .returned (.tuple #[posV a1 a2 a3, posV b1 b2 b3]) ∧ Below w.heap.size w w' := by
  have c3 := hL.cell 3 h3
  have c4 := hL.cell 4 h4
  have c5 := hL.cell 5 h5
  have c8 := hL.cell 8 h8
  have c9 := hL.cell 9 h9
  have c10 := hL.cell 10 h10
  have hlt := hL.lt
  have n1 : w.heap.size ≠ L := by omega
  have n2 : w.heap.size + 1 ≠ L := by omega
  go_enter Tryz.func211, Tryz.ntmps211
  go_wp2
  go_region_held3 (fun w' => w'.cell? ⟨L, 3, none⟩ = some (.int .i64 a1) ∧ w'.cell? ⟨L, 4, none⟩ = some (.int .i64 a2) ∧ w'.cell? ⟨L, 5, none⟩ = some (.int .i64 a3) ∧
     w'.cell? ⟨L, 8, none⟩ = some (.int .i64 b1) ∧ w'.cell? ⟨L, 9, none⟩ = some (.int .i64 b2) ∧ w'.cell? ⟨L, 10, none⟩ = some (.int .i64 b3)) (go_keep) (fail)
  all_goals go_wp2
  all_goals
    refine bodyPost_ret (v := .tuple #[posV a1 a2 a3, posV b1 b2 b3]) (by simp [results, Tryz.results211, go_sem, posV]) rfl ⟨rfl, ?_⟩
    exact (((Below.refl _ w).alloc (Nat.le_refl _) _).alloc (by simp) _).drew

theorem span_lineAt (N : Nat) (w : World) (T : List UInt8) (L : Nat) (t : Tk) (ts : List Tk) (h : LineAt N w T L t ts) :
    Calls Tryz.prog 211 #[.pointer (some ⟨L, 0, none⟩)] w fun e w' => (∃ a1 a2 a3 b1 b2 b3, e = .returned (.tuple #[posV a1 a2 a3, posV b1 b2 b3])) ∧ Below w.heap.size w w' := by
  obtain ⟨tv, hb, _⟩ := h
  exact (span_line w L _ _ _ _ _ _ _ hb rfl rfl rfl rfl rfl rfl).mono (fun e w' h => ⟨⟨_, _, _, _, _, _, h.1⟩, h.2⟩)

theorem Blk.set_id {w : World} {b : Nat} {t : TypeId} {cs : Array Value} (h : Blk w b t cs) {j : Nat} {v : Value} (hv : cs[j]? = some v) : w.setCell ⟨b, j, none⟩ v = w := by
  have hb := h.out
  have he : (w.setCell ⟨b, j, none⟩ v).heap = w.heap := by
    apply Array.ext_getElem?
    intro i
    by_cases hi : i = b
    · subst hi
      have h1 := (h.set j v).out
      rw [h1, hb]
      have : cs.setIfInBounds j v = cs := by
        apply Array.ext_getElem?
        intro k
        by_cases hk : k = j
        · subst hk
          rw [Array.getElem?_setIfInBounds]
          have := (Array.getElem?_eq_some_iff.1 hv).1
          simp [this]
          exact ((Array.getElem?_eq_some_iff.1 hv).2).symm
        · rw [Array.getElem?_setIfInBounds]
          simp [Ne.symm hk]
      rw [this]
    · exact Below.heap_setCell _ _ _ _ hi
  have : w.setCell ⟨b, j, none⟩ v = { w with heap := (w.setCell ⟨b, j, none⟩ v).heap } := rfl
  rw [this, he]

theorem LinesAt.at {N : Nat} {w : World} {T : List UInt8} {Ls : List Nat} {ls : List (Tk × List Tk)} (h : LinesAt N w T Ls ls) : ∀ L ∈ Ls, ∃ t ts, LineAt N w T L t ts := by
  induction h with
  | nil => simp
  | cons h _ ih =>
    intro L hL
    rcases List.mem_cons.1 hL with rfl | hL
    · exact ⟨_, _, h⟩
    · exact ih L hL
theorem LineAt.below {N : Nat} {w w' : World} {T : List UInt8} {L : Nat} {t : Tk} {ts : List Tk} (h : LineAt N w T L t ts) (k : Below w.heap.size w w') : LineAt N w' T L t ts := by
  obtain ⟨tv, hb, ho⟩ := h
  exact ⟨tv, hb.kept (Kp.of_below (X := fun _ => False) k) (fun h => h), ownsRow_kp ho (Kp.of_below (X := fun _ => False) k) (fun _ _ h => h)⟩
theorem FileAt.below {N : Nat} {w w' : World} {F : Nat} {nm : ByteArray} {xs : List Value} (h : FileAt N w F nm xs) (k : Below w.heap.size w w') : FileAt N w' F nm xs := by
  obtain ⟨v, hb, ho⟩ := h
  exact ⟨v, hb.kept (Kp.of_below (X := fun _ => False) k) (fun h => h), ownsRow_kp ho (Kp.of_below (X := fun _ => False) k) (fun _ _ h => h)⟩

set_option maxRecDepth 100000 in
set_option maxHeartbeats 1000000 in
theorem span_file (N : Nat) (w : World) (T : List UInt8) (F : Nat) (nm : ByteArray) (Ls : List Nat) (hF : FileAt N w F nm (Ls.map lineV)) (hLs : ∀ L ∈ Ls, ∃ t ts, LineAt N w T L t ts) (hl0 : 0 < Ls.length) (hl : Ls.length ≤ 1000000) :
    Calls Tryz.prog 209 #[.pointer (some ⟨F, 0, none⟩)] w fun e w' => (∃ a1 a2 a3 b1 b2 b3, e = .returned (.tuple #[posV a1 a2 a3, posV b1 b2 b3])) ∧ Below w.heap.size w w' := by
  obtain ⟨v, hFb, hFo⟩ := hF
  obtain ⟨g0, cap0, rfl⟩ : ∃ g cap, v = .slice (some ⟨g, 0, none⟩) Ls.length cap := by
    rcases hFo.2 with ⟨_, h2⟩ | ⟨g, cap, cur, e, _⟩
    · rw [List.length_map] at h2; omega
    · exact ⟨g, cap, by simpa using e⟩
  rw [List.length_map] at hFo
  have hg0 : g0 < w.heap.size := (hFo.lt g0 rfl).2
  obtain ⟨L1, hL1⟩ : ∃ L, Ls[0]? = some L := ⟨_, List.getElem?_eq_getElem hl0⟩
  obtain ⟨L2, hL2⟩ : ∃ L, Ls[Ls.length - 1]? = some L := ⟨_, List.getElem?_eq_getElem (by omega)⟩
  have e1 : w.cell? ⟨g0, 0, none⟩ = some (lineV L1) := by rw [hFo.cellAt 0 (by omega)]; simp [hL1]
  have e2 : w.cell? ⟨g0, Ls.length - 1, none⟩ = some (lineV L2) := by rw [hFo.cellAt _ (by omega)]; simp [hL2]
  obtain ⟨t1, ts1, hl1⟩ := hLs L1 (List.mem_of_getElem? hL1)
  obtain ⟨t2, ts2, hl2⟩ := hLs L2 (List.mem_of_getElem? hL2)
  have e4 : w.cell? ⟨F, 4, none⟩ = some (.slice (some ⟨g0, 0, none⟩) Ls.length cap0) := hFb.cell 4 rfl
  have hFl := hFb.lt
  unfold lineV at e1 e2
  obtain ⟨m, hm⟩ : ∃ m, Ls.length = m + 1 := ⟨Ls.length - 1, by omega⟩
  rw [show Ls.length - 1 = m from by omega] at e2 hL2
  rw [hm] at e4 hl
  have hne : (((m : Int) + 1) == 0) = false := by simp only [beq_eq_false_iff_ne]; omega
  have hwm : IntKind.i64.wrap (m : Int) = (m : Int) := by simp only [IntKind.wrap, IntKind.signed, IntKind.bits]; simp; omega
  have h0 : (0 : Int) ≤ (m : Int) := by omega
  have h1 : (m : Int) < (m : Int) + 1 := by omega
  have h2 : (0 : Int) < (m : Int) + 1 := by omega
  have HL1 := hide hl1
  have HL2 := hide hl2
  clear hl1 hl2 hLs hL1 hL2 hFb hFo
  go_enter Tryz.func209, Tryz.ntmps209
  go_wp2_with fail
  have hbA : Below w.heap.size w ((w.alloc (Obj.cells #[Value.int IntKind.i64 0, Value.int IntKind.i64 0, Value.int IntKind.i64 0] 134)).alloc (Obj.cells #[Value.int IntKind.i64 0, Value.int IntKind.i64 0, Value.int IntKind.i64 0] 134)) :=
    ((Below.refl _ w).alloc (Nat.le_refl _) _).alloc (by simp) _
  have p2 := (Blk.new w 134 #[Value.int IntKind.i64 0, Value.int IntKind.i64 0, Value.int IntKind.i64 0]).alloc (Obj.cells #[Value.int IntKind.i64 0, Value.int IntKind.i64 0, Value.int IntKind.i64 0] 134)
  have p3 := Blk.new (w.alloc (Obj.cells #[Value.int IntKind.i64 0, Value.int IntKind.i64 0, Value.int IntKind.i64 0] 134)) 134 #[Value.int IntKind.i64 0, Value.int IntKind.i64 0, Value.int IntKind.i64 0]
  rw [show (w.alloc (Obj.cells #[Value.int IntKind.i64 0, Value.int IntKind.i64 0, Value.int IntKind.i64 0] 134)).heap.size = w.heap.size + 1 from by simp] at p3
  generalize ((w.alloc (Obj.cells #[Value.int IntKind.i64 0, Value.int IntKind.i64 0, Value.int IntKind.i64 0] 134)).alloc (Obj.cells #[Value.int IntKind.i64 0, Value.int IntKind.i64 0, Value.int IntKind.i64 0] 134)) = W at hbA p2 p3 ⊢
  refine (span_lineAt N W T L1 t1 ts1 (HL1.out.below hbA)).mono ?_
  rintro e w2 ⟨⟨a1, a2, a3, b1, b2, b3, rfl⟩, hb2⟩
  have hb02 : Below w.heap.size w w2 := hbA.trans (hb2.mono hbA.size)
  have d4 : w2.cell? ⟨F, 4, none⟩ = some (.slice (some ⟨g0, 0, none⟩) (m + 1) cap0) := (hb02.cell (p := ⟨F, 4, none⟩) hFl).trans e4
  have d2 : w2.cell? ⟨g0, m, none⟩ = some (.iface 92 (.pointer (some ⟨L2, 0, none⟩))) := (hb02.cell (p := ⟨g0, m, none⟩) hg0).trans e2
  have p2' := p2.kept (Kp.of_below (X := fun _ => False) hb2) (fun h => h)
  have p3' := p3.kept (Kp.of_below (X := fun _ => False) hb2) (fun h => h)
  have r0 : w2.cell? ⟨w.heap.size, 0, none⟩ = some (.int .i64 0) := p2'.cell 0 rfl
  have s0 : w2.cell? ⟨w.heap.size + 1, 0, none⟩ = some (.int .i64 0) := p3'.cell 0 rfl
  have r1 : w2.cell? ⟨w.heap.size, 1, none⟩ = some (.int .i64 0) := p2'.cell 1 rfl
  have s1 : w2.cell? ⟨w.heap.size + 1, 1, none⟩ = some (.int .i64 0) := p3'.cell 1 rfl
  have r2 : w2.cell? ⟨w.heap.size, 2, none⟩ = some (.int .i64 0) := p2'.cell 2 rfl
  have s2 : w2.cell? ⟨w.heap.size + 1, 2, none⟩ = some (.int .i64 0) := p3'.cell 2 rfl
  have fr : ∀ j, w2.frozen? ⟨w.heap.size, j, none⟩ = false := fun j => p2'.free j
  have fs : ∀ j, w2.frozen? ⟨w.heap.size + 1, j, none⟩ = false := fun j => p3'.free j
  have m1 : F ≠ w.heap.size := by omega
  have m2 : g0 ≠ w.heap.size := by omega
  have m3 : F ≠ w.heap.size + 1 := by omega
  have m4 : g0 ≠ w.heap.size + 1 := by omega
  have HB := hide hb02
  have P2 := hide p2'
  have P3 := hide p3'
  clear e1 e2 e4 hbA p2 p3 hb2 hb02 p2' p3'
  unfold posV
  go_wp2_with fail
  have q2 := ((P2.out.set 0 (.int .i64 a1)).set 1 (.int .i64 a2)).set 2 (.int .i64 a3)
  have q3 : Blk (((w2.setCell ⟨w.heap.size, 0, none⟩ (.int .i64 a1)).setCell ⟨w.heap.size, 1, none⟩ (.int .i64 a2)).setCell ⟨w.heap.size, 2, none⟩ (.int .i64 a3)) (w.heap.size + 1) 134 #[Value.int IntKind.i64 0, Value.int IntKind.i64 0, Value.int IntKind.i64 0] :=
    ((P3.out.set_other (by simp) _).set_other (by simp) _).set_other (by simp) _
  have hb3 : Below w.heap.size w (((w2.setCell ⟨w.heap.size, 0, none⟩ (.int .i64 a1)).setCell ⟨w.heap.size, 1, none⟩ (.int .i64 a2)).setCell ⟨w.heap.size, 2, none⟩ (.int .i64 a3)) :=
    ((HB.out.setCell (p := ⟨w.heap.size, 0, none⟩) (Nat.le_refl _) _).setCell (p := ⟨w.heap.size, 1, none⟩) (Nat.le_refl _) _).setCell (p := ⟨w.heap.size, 2, none⟩) (Nat.le_refl _) _
  have d4' : (((w2.setCell ⟨w.heap.size, 0, none⟩ (.int .i64 a1)).setCell ⟨w.heap.size, 1, none⟩ (.int .i64 a2)).setCell ⟨w.heap.size, 2, none⟩ (.int .i64 a3)).cell? ⟨F, 4, none⟩ = some (.slice (some ⟨g0, 0, none⟩) (m + 1) cap0) := by
    simp [World.cell?_setCell_far, d4, m1.symm]
  have d2' : (((w2.setCell ⟨w.heap.size, 0, none⟩ (.int .i64 a1)).setCell ⟨w.heap.size, 1, none⟩ (.int .i64 a2)).setCell ⟨w.heap.size, 2, none⟩ (.int .i64 a3)).cell? ⟨g0, m, none⟩ = some (.iface 92 (.pointer (some ⟨L2, 0, none⟩))) := by
    simp [World.cell?_setCell_far, d2, m2.symm]
  clear d4 d2 r0 r1 r2 s0 s1 s2 fr fs
  generalize (((w2.setCell ⟨w.heap.size, 0, none⟩ (.int .i64 a1)).setCell ⟨w.heap.size, 1, none⟩ (.int .i64 a2)).setCell ⟨w.heap.size, 2, none⟩ (.int .i64 a3)) = W3 at q2 q3 hb3 d4' d2' ⊢
  have n1 := World.new_ne W3 _ d4'
  have m3' := m3.symm
  have m4' := m4.symm
  have Q2 := hide q2
  have Q3 := hide q3
  have HB3 := hide hb3
  have hls : LineAt N W3 T L2 t2 ts2 := HL2.out.below hb3
  have HLS := hide hls
  have hpw : w.heap.size + 1 < W3.heap.size := q3.lt
  clear q2 q3 hb3 hls
  go_region_held3 (fun w' => w'.cell? ⟨F, 4, none⟩ = some (.slice (some ⟨g0, 0, none⟩) (m + 1) cap0) ∧ w'.cell? ⟨g0, m, none⟩ = some (.iface 92 (.pointer (some ⟨L2, 0, none⟩)))) (go_keep)
    ((refine (span_lineAt N _ T L2 t2 ts2 (show LineAt N W3.drew T L2 t2 ts2 from HLS.out.below (Below.refl _ W3).drew)).mono ?_; rintro e w4 ⟨⟨c1, c2, c3, k1, k2, k3, rfl⟩, hb5⟩; have hb4 : Below W3.heap.size W3 w4 := ((Below.refl W3.heap.size W3).drew).trans hb5; have u4 : w4.cell? ⟨F, 4, none⟩ = some (.slice (some ⟨g0, 0, none⟩) (m + 1) cap0) := (hb4.cell (p := ⟨F, 4, none⟩) (show F < W3.heap.size by omega)).trans d4'; have u2 : w4.cell? ⟨g0, m, none⟩ = some (.iface 92 (.pointer (some ⟨L2, 0, none⟩))) := (hb4.cell (p := ⟨g0, m, none⟩) (show g0 < W3.heap.size by omega)).trans d2'; have y2 := Q2.out.kept (Kp.of_below (X := fun _ => False) hb4) (fun h => h); have y3 := Q3.out.kept (Kp.of_below (X := fun _ => False) hb4) (fun h => h); have fs : ∀ j, w4.frozen? ⟨w.heap.size + 1, j, none⟩ = false := fun j => y3.free j; have z0 : w4.cell? ⟨w.heap.size + 1, 0, none⟩ = some (.int .i64 0) := y3.cell 0 rfl; have z1 : w4.cell? ⟨w.heap.size + 1, 1, none⟩ = some (.int .i64 0) := y3.cell 1 rfl; have z2 : w4.cell? ⟨w.heap.size + 1, 2, none⟩ = some (.int .i64 0) := y3.cell 2 rfl; have Y2 := hide y2; have Y3 := hide y3; have HB4 := hide (HB3.out.trans (hb4.mono HB3.out.size)); unfold posV; clear y2 y3 hb4 hb5))
  all_goals go_wp2
  have x3 := ((Y3.out.set 0 (.int .i64 k1)).set 1 (.int .i64 k2)).set 2 (.int .i64 k3)
  have x2 := ((Y2.out.set_other (a := ⟨w.heap.size + 1, 0, none⟩) (by simp) (.int .i64 k1)).set_other (a := ⟨w.heap.size + 1, 1, none⟩) (by simp) (.int .i64 k2)).set_other (a := ⟨w.heap.size + 1, 2, none⟩) (by simp) (.int .i64 k3)
  have hb6 : Below w.heap.size w (((w4.setCell ⟨w.heap.size + 1, 0, none⟩ (.int .i64 k1)).setCell ⟨w.heap.size + 1, 1, none⟩ (.int .i64 k2)).setCell ⟨w.heap.size + 1, 2, none⟩ (.int .i64 k3)) :=
    ((HB4.out.setCell (p := ⟨w.heap.size + 1, 0, none⟩) (Nat.le_succ _) _).setCell (p := ⟨w.heap.size + 1, 1, none⟩) (Nat.le_succ _) _).setCell (p := ⟨w.heap.size + 1, 2, none⟩) (Nat.le_succ _) _
  clear u4 u2 fs z0 z1 z2
  generalize (((w4.setCell ⟨w.heap.size + 1, 0, none⟩ (.int .i64 k1)).setCell ⟨w.heap.size + 1, 1, none⟩ (.int .i64 k2)).setCell ⟨w.heap.size + 1, 2, none⟩ (.int .i64 k3)) = W6 at x2 x3 hb6 ⊢
  have h60 : W6.cell? ⟨w.heap.size, 0, none⟩ = some (.int .i64 a1) := x2.cell 0 rfl
  have l0 : W6.cell? ⟨w.heap.size + 1, 0, none⟩ = some (.int .i64 k1) := x3.cell 0 rfl
  have i0 : W6.setCell ⟨w.heap.size, 0, none⟩ (.int .i64 a1) = W6 := x2.set_id rfl
  have o0 : W6.setCell ⟨w.heap.size + 1, 0, none⟩ (.int .i64 k1) = W6 := x3.set_id rfl
  have h61 : W6.cell? ⟨w.heap.size, 1, none⟩ = some (.int .i64 a2) := x2.cell 1 rfl
  have l1 : W6.cell? ⟨w.heap.size + 1, 1, none⟩ = some (.int .i64 k2) := x3.cell 1 rfl
  have i1 : W6.setCell ⟨w.heap.size, 1, none⟩ (.int .i64 a2) = W6 := x2.set_id rfl
  have o1 : W6.setCell ⟨w.heap.size + 1, 1, none⟩ (.int .i64 k2) = W6 := x3.set_id rfl
  have h62 : W6.cell? ⟨w.heap.size, 2, none⟩ = some (.int .i64 a3) := x2.cell 2 rfl
  have l2 : W6.cell? ⟨w.heap.size + 1, 2, none⟩ = some (.int .i64 k3) := x3.cell 2 rfl
  have i2 : W6.setCell ⟨w.heap.size, 2, none⟩ (.int .i64 a3) = W6 := x2.set_id rfl
  have o2 : W6.setCell ⟨w.heap.size + 1, 2, none⟩ (.int .i64 k3) = W6 := x3.set_id rfl
  have f2 : ∀ j, W6.frozen? ⟨w.heap.size, j, none⟩ = false := fun j => x2.free j
  have f3 : ∀ j, W6.frozen? ⟨w.heap.size + 1, j, none⟩ = false := fun j => x3.free j
  go_region_held3 (fun w' => w'.cell? ⟨w.heap.size, 0, none⟩ = some (.int .i64 a1) ∧ w'.cell? ⟨w.heap.size, 1, none⟩ = some (.int .i64 a2) ∧ w'.cell? ⟨w.heap.size, 2, none⟩ = some (.int .i64 a3) ∧
      w'.cell? ⟨w.heap.size + 1, 0, none⟩ = some (.int .i64 k1) ∧ w'.cell? ⟨w.heap.size + 1, 1, none⟩ = some (.int .i64 k2) ∧ w'.cell? ⟨w.heap.size + 1, 2, none⟩ = some (.int .i64 k3)) (go_keep) (fail)
  all_goals go_wp2
  all_goals
    refine bodyPost_ret (v := .tuple #[posV a1 a2 a3, posV k1 k2 k3]) (by simp [results, Tryz.results209, go_sem, posV, h60, h61, h62, l0, l1, l2]) rfl ⟨⟨_, _, _, _, _, _, rfl⟩, hb6.drew⟩
end Go.Proofs.YtifkpibjeamfkaaGreatFmt
