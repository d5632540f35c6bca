/- contentOf at a file of a module alone; modfile.Parse; impl.Parse at the documents of this claim. -/
import Derived.Test.YtifkpibjeamfkaaGreatFmtC13
import Derived.Lib.ConvBytes
set_option linter.unusedVariables false
namespace Go.Proofs.YtifkpibjeamfkaaGreatFmt
open Go.RowKit Go.Proofs

/-- A content: its module, the rest is empty. -/
def contentV (s : ByteArray) : Value := .agg #[.string s, .string ⟨#[]⟩, .string ⟨#[]⟩, .slice none 0 0, .slice none 0 0, .slice none 0 0, .slice none 0 0, .slice none 0 0, .slice none 0 0]

set_option maxRecDepth 100000 in
set_option maxHeartbeats 4000000 in
theorem contentOf_module (f F M : Nat) (s : ByteArray) (w : World) (hf : Blk w f 89 (fileCells (.pointer (some ⟨M, 0, none⟩)) F)) (hM : w.cell? ⟨M, 0, none⟩ = some (.string s)) :
    Calls Tryz.prog 38 #[.pointer (some ⟨f, 0, none⟩)] w fun e w' => e = .returned (contentV s) ∧ Below w.heap.size w w' := by
  have p1 : w.cell? ⟨f, 1, none⟩ = some (.pointer none) := hf.cell 1 rfl
  have p2 : w.cell? ⟨f, 2, none⟩ = some (.pointer none) := hf.cell 2 rfl
  have p4 : w.cell? ⟨f, 4, none⟩ = some (.slice none 0 0) := hf.cell 4 rfl
  have p5 : w.cell? ⟨f, 5, none⟩ = some (.slice none 0 0) := hf.cell 5 rfl
  have p6 : w.cell? ⟨f, 6, none⟩ = some (.slice none 0 0) := hf.cell 6 rfl
  have p7 : w.cell? ⟨f, 7, none⟩ = some (.slice none 0 0) := hf.cell 7 rfl
  have p8 : w.cell? ⟨f, 8, none⟩ = some (.slice none 0 0) := hf.cell 8 rfl
  have p9 : w.cell? ⟨f, 9, none⟩ = some (.slice none 0 0) := hf.cell 9 rfl
  have p0 : w.cell? ⟨f, 0, none⟩ = some (.pointer (some ⟨M, 0, none⟩)) := hf.cell 0 rfl
  have lf := hf.lt
  have lM : M < w.heap.size := World.block_lt_of_cell? w _ hM
  have lf1 : f < w.heap.size + 1 := by omega
  have lf2 : f < w.heap.size + 1 + 1 := by omega
  have lM1 : M < w.heap.size + 1 := by omega
  have lM2 : M < w.heap.size + 1 + 1 := by omega
  clear hf
  go_enter Tryz.func38, Tryz.ntmps38
  go_wp2_with fail
  refine wp_loop_rounds 1 ?_
  rw [rounds_succ]
  go_wp2_with fail
  refine wp_loop_rounds 1 ?_
  rw [rounds_succ]
  go_wp2_with fail
  refine wp_loop_rounds 1 ?_
  rw [rounds_succ]
  go_wp2_with fail
  refine wp_loop_rounds 1 ?_
  rw [rounds_succ]
  go_wp2_with fail
  refine wp_loop_rounds 1 ?_
  rw [rounds_succ]
  go_wp2_with fail
  refine wp_loop_rounds 1 ?_
  rw [rounds_succ]
  go_wp2_with fail
  exact bodyPost_ret (v := contentV s) (by simp [results, Tryz.results38, go_sem, contentV]) rfl ⟨rfl, ((Below.refl _ _).alloc (Nat.le_refl _) _).alloc (by simp) _⟩

theorem bytesWorld_below' (w : World) (e : TypeId) (s : ByteArray) : Below w.heap.size w (Lib.bytesWorld w e s) :=
  ⟨rfl, rfl, rfl, by rw [Lib.bytesWorld_size]; omega, fun k hk => Lib.bytesWorld_at_old w e s k (by omega)⟩

/-- A text as bytes: ASCII, not long. -/
structure Asc (t : ByteArray) (T : List UInt8) : Prop where
  eq : t.data.toList = T
  ascii : ∀ j, ch T j < 128
  len : T.length ≤ 1000000
theorem Asc.size {t : ByteArray} {T : List UInt8} (h : Asc t T) : t.size = T.length := by
  rw [← h.eq]; cases t; simp [ByteArray.size]
theorem Asc.txt {t : ByteArray} {T : List UInt8} (h : Asc t T) (w : World) : TxtAt (Lib.bytesWorld w 5 t) w.heap.size (grownCap w t.size 0 5) T := by
  have hs := h.size
  have hl := h.len
  refine ⟨fun j hj => ?_, h.ascii, by rw [← hs]; exact grownCap_ge _ _ _ _, ?_, by omega, ⟨_, _, Lib.bytesWorld_at_new w _ t⟩⟩
  · rw [Lib.bytesWorld_cell w _ t j (by omega), h.eq]; rfl
  · have := grownCap_le_maxLen w t.size 0 5 (by unfold maxLen; omega)
    unfold maxLen at this; omega

theorem mfParse_ok (w : World) (D C : Nat) (nm : ByteArray) (u : List UInt8) (s : ByteArray) (h : TxtAt w D C (docTxt [[modB, u]])) (hu : Wd u) (hps : ∀ (R : Nat) (cur : Array Value), cur[1]? = some (.string (mkS u)) → Reads1 R 1 cur s) 
    (hpr : PrTab w) (hP : 0 < w.heap.size) :
    Calls Tryz.prog 37 #[.string nm, .slice (some ⟨D, 0, none⟩) (docTxt [[modB, u]]).length C, .nilFunc] w fun e w' => ∃ f F M, e = .returned (.tuple #[.pointer (some ⟨f, 0, none⟩), .nilIface]) ∧ Below w.heap.size w w' ∧ Blk w' f 89 (fileCells (.pointer (some ⟨M, 0, none⟩)) F) ∧ w'.cell? ⟨M, 0, none⟩ = some (.string s) := by
  have HC := hide (ptf_one w D C nm u s h hu hps hpr hP)
  clear h hps hpr
  go_enter Tryz.func37, Tryz.ntmps37
  go_wp2_with fail
  go_fit HC.out
  rintro e w1 ⟨f, F, M, rfl, hb, hB, hM⟩
  have HB := hide hb
  clear hb
  go_wp2_with fail
  go_returns
  have hb := HB.out
  exact ⟨f, F, M, rfl, hb, hB, hM⟩
theorem mfParse_bad (w : World) (D C : Nat) (nm : ByteArray) (u vb pa ve : List UInt8) (s : ByteArray) (h : TxtAt w D C (docTxt [[modB, u], [], [vb, pa, ve]])) (hu : Wd u) (hvb : Wd vb) (hpa : Wd pa) (hve : Wd ve) (hps : ∀ (R : Nat) (cur : Array Value), cur[1]? = some (.string (mkS u)) → Reads1 R 1 cur s) (hbad : BadAdd w (mkS vb) (mkS pa) (mkS ve))
    (hpr : PrTab w) (hP : 0 < w.heap.size) :
    Calls Tryz.prog 37 #[.string nm, .slice (some ⟨D, 0, none⟩) (docTxt [[modB, u], [], [vb, pa, ve]]).length C, .nilFunc] w fun e w' => (∃ t v, e = .returned (.tuple #[.pointer none, .iface t v])) ∧ Below w.heap.size w w' := by
  have HC := hide (ptf_bad w D C nm u vb pa ve s h hu hvb hpa hve hps hbad hpr hP)
  clear h hps hpr
  go_enter Tryz.func37, Tryz.ntmps37
  go_wp2_with fail
  go_fit HC.out
  rintro e w1 ⟨⟨t, v, rfl⟩, hb⟩
  have HB := hide hb
  clear hb
  go_wp2_with fail
  go_returns
  have hb := HB.out
  exact ⟨⟨t, v, rfl⟩, hb⟩

def contentZ : Array Value := #[.string ⟨#[]⟩, .string ⟨#[]⟩, .string ⟨#[]⟩, .slice none 0 0, .slice none 0 0, .slice none 0 0, .slice none 0 0, .slice none 0 0, .slice none 0 0]

set_option maxRecDepth 100000 in
set_option maxHeartbeats 2000000 in
theorem implParse_ok (w : World) (t : ByteArray) (u : List UInt8) (s : ByteArray) (ht : Asc t (docTxt [[modB, u]])) (hu : Wd u) (hps : ∀ (R : Nat) (cur : Array Value), cur[1]? = some (.string (mkS u)) → Reads1 R 1 cur s)
    (hpr : PrTab w) (hP : 0 < w.heap.size) :
    Calls Tryz.prog 13 #[.string t] w fun e w' => e = .returned (.tuple #[contentV s, .bool true]) ∧ Below w.heap.size w w' := by
  have kc := fun (W : World) => Lib.run_convert_string_bytes (P := Tryz.prog) W 9 69 5 t (u := .string) (by kernel_rfl) (by kernel_rfl) (by kernel_rfl)
  have HT := hide ht
  have HU := hide hu
  have HS := hide hps
  have HP := hide hpr
  clear ht hu hps hpr
  go_enter Tryz.func13, Tryz.ntmps13
  go_wp2_with fail
  have htx := HT.out.txt (w.alloc (Obj.cells contentZ 28))
  have hbb := bytesWorld_below' (w.alloc (Obj.cells contentZ 28)) 5 t
  have bC := (Blk.new w 28 contentZ).kept (Kp.of_below (X := fun _ => False) hbb) (fun h => h)
  have hb2 : Below w.heap.size w (Lib.bytesWorld (w.alloc (Obj.cells contentZ 28)) 5 t) := ((Below.refl _ w).alloc (Nat.le_refl _) _).trans (hbb.mono (by simp))
  rw [show (w.alloc (Obj.cells contentZ 28)).heap.size = w.heap.size + 1 from by simp] at htx
  clear hbb
  unfold contentZ at htx bC hb2
  generalize grownCap (w.alloc (Obj.cells #[.string ⟨#[]⟩, .string ⟨#[]⟩, .string ⟨#[]⟩, .slice none 0 0, .slice none 0 0, .slice none 0 0, .slice none 0 0, .slice none 0 0, .slice none 0 0] 28)) t.size 0 5 = C at htx ⊢
  generalize Lib.bytesWorld (w.alloc (Obj.cells #[.string ⟨#[]⟩, .string ⟨#[]⟩, .string ⟨#[]⟩, .slice none 0 0, .slice none 0 0, .slice none 0 0, .slice none 0 0, .slice none 0 0, .slice none 0 0] 28)) 5 t = W2 at htx bC hb2 ⊢
  have hsz := HT.out.size
  rw [hsz]
  clear hsz
  have hpr2 : PrTab W2 := HP.out.keptT (N := w.heap.size) (S := fun _ => True) ⟨hb2, fun k cs t fz e hn => absurd True.intro hn⟩ hP
  go_fit (mfParse_ok W2 (w.heap.size + 1) C ⟨#[103, 111, 46, 109, 111, 100]⟩ u s htx HU.out HS.out hpr2 (Nat.lt_of_lt_of_le hP hb2.size))
  rintro e w3 ⟨f, F, M, rfl, hb3, hB3, hM3⟩
  have B3 := hide (And.intro hB3 hM3)
  have bC3 := bC.kept (Kp.of_below (X := fun _ => False) hb3) (fun h => h)
  have BC3 := hide bC3
  have HB3 := hide (hb2.trans (hb3.mono hb2.size))
  clear htx bC hb2 hpr2 hb3 hB3 hM3 bC3
  go_wp2_with fail
  go_fit (contentOf_module f F M s w3 B3.out.1 B3.out.2)
  rintro e w4 ⟨rfl, hb4⟩
  have bC4 := BC3.out.kept (Kp.of_below (X := fun _ => False) hb4) (fun h => h)
  have HB4 := hide (HB3.out.trans (hb4.mono HB3.out.size))
  have p0 : w4.cell? ⟨w.heap.size, 0, none⟩ = some (.string ⟨#[]⟩) := bC4.cell 0 rfl
  have p1 : w4.cell? ⟨w.heap.size, 1, none⟩ = some (.string ⟨#[]⟩) := bC4.cell 1 rfl
  have p2 : w4.cell? ⟨w.heap.size, 2, none⟩ = some (.string ⟨#[]⟩) := bC4.cell 2 rfl
  have p3 : w4.cell? ⟨w.heap.size, 3, none⟩ = some (.slice none 0 0) := bC4.cell 3 rfl
  have p4 : w4.cell? ⟨w.heap.size, 4, none⟩ = some (.slice none 0 0) := bC4.cell 4 rfl
  have p5 : w4.cell? ⟨w.heap.size, 5, none⟩ = some (.slice none 0 0) := bC4.cell 5 rfl
  have p6 : w4.cell? ⟨w.heap.size, 6, none⟩ = some (.slice none 0 0) := bC4.cell 6 rfl
  have p7 : w4.cell? ⟨w.heap.size, 7, none⟩ = some (.slice none 0 0) := bC4.cell 7 rfl
  have p8 : w4.cell? ⟨w.heap.size, 8, none⟩ = some (.slice none 0 0) := bC4.cell 8 rfl
  have fC4 : ∀ j, w4.frozen? ⟨w.heap.size, j, none⟩ = false := fun j => bC4.free j
  have BC4 := hide bC4
  clear hb4 bC4
  unfold contentV
  go_wp2_with fail
  refine (show ∀ W5 : World, Blk W5 w.heap.size 28 #[.string s, .string ⟨#[]⟩, .string ⟨#[]⟩, .slice none 0 0, .slice none 0 0, .slice none 0 0, .slice none 0 0, .slice none 0 0, .slice none 0 0] → Below w.heap.size w W5 → bodyPost Tryz.prog _ _ Exit.ret _ W5 from fun W5 b5 hb5 => ?_) _
    ((((((((((BC4.out.set 0 (.string s)).set 1 (.string ⟨#[]⟩)).set 2 (.string ⟨#[]⟩)).set 3 (.slice none 0 0)).set 4 (.slice none 0 0)).set 5 (.slice none 0 0)).set 6 (.slice none 0 0)).set 7 (.slice none 0 0)).set 8 (.slice none 0 0)).eq (by simp))
    (((((((((HB4.out.setCell (Nat.le_refl _) _).setCell (Nat.le_refl _) _).setCell (Nat.le_refl _) _).setCell (Nat.le_refl _) _).setCell (Nat.le_refl _) _).setCell (Nat.le_refl _) _).setCell (Nat.le_refl _) _).setCell (Nat.le_refl _) _).setCell (Nat.le_refl _) _)
  have q1 : W5.cell? ⟨w.heap.size, 1, none⟩ = some (.string ⟨#[]⟩) := b5.cell 1 rfl
  have q2 : W5.cell? ⟨w.heap.size, 2, none⟩ = some (.string ⟨#[]⟩) := b5.cell 2 rfl
  have q3 : W5.cell? ⟨w.heap.size, 3, none⟩ = some (.slice none 0 0) := b5.cell 3 rfl
  have q4 : W5.cell? ⟨w.heap.size, 4, none⟩ = some (.slice none 0 0) := b5.cell 4 rfl
  have q5 : W5.cell? ⟨w.heap.size, 5, none⟩ = some (.slice none 0 0) := b5.cell 5 rfl
  have q6 : W5.cell? ⟨w.heap.size, 6, none⟩ = some (.slice none 0 0) := b5.cell 6 rfl
  have q7 : W5.cell? ⟨w.heap.size, 7, none⟩ = some (.slice none 0 0) := b5.cell 7 rfl
  have q8 : W5.cell? ⟨w.heap.size, 8, none⟩ = some (.slice none 0 0) := b5.cell 8 rfl
  have q0 : W5.cell? ⟨w.heap.size, 0, none⟩ = some (.string s) := b5.cell 0 rfl
  exact bodyPost_ret (v := .tuple #[contentV s, .bool true]) (by simp [results, Tryz.results13, go_sem, contentV, q0, q1, q2, q3, q4, q5, q6, q7, q8]) rfl ⟨rfl, hb5⟩

set_option maxRecDepth 100000 in
set_option maxHeartbeats 2000000 in
theorem implParse_bad (w : World) (t : ByteArray) (u vb pa ve : List UInt8) (s : ByteArray) (ht : Asc t (docTxt [[modB, u], [], [vb, pa, ve]])) (hu : Wd u) (hvb : Wd vb) (hpa : Wd pa) (hve : Wd ve) (hps : ∀ (R : Nat) (cur : Array Value), cur[1]? = some (.string (mkS u)) → Reads1 R 1 cur s) (hbad : BadAdd w (mkS vb) (mkS pa) (mkS ve))
    (hpr : PrTab w) (hP : 0 < w.heap.size) :
    Calls Tryz.prog 13 #[.string t] w fun e w' => e = .returned (.tuple #[contentV ⟨#[]⟩, .bool false]) ∧ Below w.heap.size w w' := by
  have kc := fun (W : World) => Lib.run_convert_string_bytes (P := Tryz.prog) W 9 69 5 t (u := .string) (by kernel_rfl) (by kernel_rfl) (by kernel_rfl)
  have HT := hide ht
  have HU := hide (And.intro hu (And.intro hvb (And.intro hpa hve)))
  have HX := hide hbad
  have HS := hide hps
  have HP := hide hpr
  clear ht hu hvb hpa hve hbad hps hpr
  go_enter Tryz.func13, Tryz.ntmps13
  go_wp2_with fail
  have htx := HT.out.txt (w.alloc (Obj.cells contentZ 28))
  have hbb := bytesWorld_below' (w.alloc (Obj.cells contentZ 28)) 5 t
  have bC := (Blk.new w 28 contentZ).kept (Kp.of_below (X := fun _ => False) hbb) (fun h => h)
  have hb2 : Below w.heap.size w (Lib.bytesWorld (w.alloc (Obj.cells contentZ 28)) 5 t) := ((Below.refl _ w).alloc (Nat.le_refl _) _).trans (hbb.mono (by simp))
  rw [show (w.alloc (Obj.cells contentZ 28)).heap.size = w.heap.size + 1 from by simp] at htx
  clear hbb
  unfold contentZ at htx bC hb2
  generalize grownCap (w.alloc (Obj.cells #[.string ⟨#[]⟩, .string ⟨#[]⟩, .string ⟨#[]⟩, .slice none 0 0, .slice none 0 0, .slice none 0 0, .slice none 0 0, .slice none 0 0, .slice none 0 0] 28)) t.size 0 5 = C at htx ⊢
  generalize Lib.bytesWorld (w.alloc (Obj.cells #[.string ⟨#[]⟩, .string ⟨#[]⟩, .string ⟨#[]⟩, .slice none 0 0, .slice none 0 0, .slice none 0 0, .slice none 0 0, .slice none 0 0, .slice none 0 0] 28)) 5 t = W2 at htx bC hb2 ⊢
  have hsz := HT.out.size
  rw [hsz]
  clear hsz
  have hpr2 : PrTab W2 := HP.out.keptT (N := w.heap.size) (S := fun _ => True) ⟨hb2, fun k cs t fz e hn => absurd True.intro hn⟩ hP
  have hbad2 : BadAdd W2 (mkS vb) (mkS pa) (mkS ve) := by
    intro R cap cur w' f E F L nm a1 a2 a3 fcs Fcs Lcs q1 q2 q3 q4 q5 q6 q7 q8 q9 q10 q11 q12 q13 q14 q15
    exact HX.out R cap cur w' f E F L nm a1 a2 a3 fcs Fcs Lcs q1 q2 q3 q4 q5 q6 q7 q8 q9 q10 q11 q12 q13 q14 (q15.trans hb2.tape)
  go_fit (mfParse_bad W2 (w.heap.size + 1) C ⟨#[103, 111, 46, 109, 111, 100]⟩ u vb pa ve s htx HU.out.1 HU.out.2.1 HU.out.2.2.1 HU.out.2.2.2 HS.out hbad2 hpr2 (Nat.lt_of_lt_of_le hP hb2.size))
  rintro e w4 ⟨⟨et, ev, rfl⟩, hb3⟩
  have bC4 := bC.kept (Kp.of_below (X := fun _ => False) hb3) (fun h => h)
  have HB4 := hide (hb2.trans (hb3.mono hb2.size))
  have p0 : w4.cell? ⟨w.heap.size, 0, none⟩ = some (.string ⟨#[]⟩) := bC4.cell 0 rfl
  have p1 : w4.cell? ⟨w.heap.size, 1, none⟩ = some (.string ⟨#[]⟩) := bC4.cell 1 rfl
  have p2 : w4.cell? ⟨w.heap.size, 2, none⟩ = some (.string ⟨#[]⟩) := bC4.cell 2 rfl
  have p3 : w4.cell? ⟨w.heap.size, 3, none⟩ = some (.slice none 0 0) := bC4.cell 3 rfl
  have p4 : w4.cell? ⟨w.heap.size, 4, none⟩ = some (.slice none 0 0) := bC4.cell 4 rfl
  have p5 : w4.cell? ⟨w.heap.size, 5, none⟩ = some (.slice none 0 0) := bC4.cell 5 rfl
  have p6 : w4.cell? ⟨w.heap.size, 6, none⟩ = some (.slice none 0 0) := bC4.cell 6 rfl
  have p7 : w4.cell? ⟨w.heap.size, 7, none⟩ = some (.slice none 0 0) := bC4.cell 7 rfl
  have p8 : w4.cell? ⟨w.heap.size, 8, none⟩ = some (.slice none 0 0) := bC4.cell 8 rfl
  have fC4 : ∀ j, w4.frozen? ⟨w.heap.size, j, none⟩ = false := fun j => bC4.free j
  have BC4 := hide bC4
  clear htx bC hb2 hpr2 hb3 bC4 hbad2
  go_wp2_with fail
  refine (show ∀ W5 : World, Blk W5 w.heap.size 28 #[.string ⟨#[]⟩, .string ⟨#[]⟩, .string ⟨#[]⟩, .slice none 0 0, .slice none 0 0, .slice none 0 0, .slice none 0 0, .slice none 0 0, .slice none 0 0] → Below w.heap.size w W5 → bodyPost Tryz.prog _ _ Exit.ret _ W5 from fun W5 b5 hb5 => ?_) _
    ((((((((((BC4.out.set 0 (.string ⟨#[]⟩)).set 1 (.string ⟨#[]⟩)).set 2 (.string ⟨#[]⟩)).set 3 (.slice none 0 0)).set 4 (.slice none 0 0)).set 5 (.slice none 0 0)).set 6 (.slice none 0 0)).set 7 (.slice none 0 0)).set 8 (.slice none 0 0)).eq (by simp))
    (((((((((HB4.out.setCell (Nat.le_refl _) _).setCell (Nat.le_refl _) _).setCell (Nat.le_refl _) _).setCell (Nat.le_refl _) _).setCell (Nat.le_refl _) _).setCell (Nat.le_refl _) _).setCell (Nat.le_refl _) _).setCell (Nat.le_refl _) _).setCell (Nat.le_refl _) _)
  have q1 : W5.cell? ⟨w.heap.size, 1, none⟩ = some (.string ⟨#[]⟩) := b5.cell 1 rfl
  have q2 : W5.cell? ⟨w.heap.size, 2, none⟩ = some (.string ⟨#[]⟩) := b5.cell 2 rfl
  have q3 : W5.cell? ⟨w.heap.size, 3, none⟩ = some (.slice none 0 0) := b5.cell 3 rfl
  have q4 : W5.cell? ⟨w.heap.size, 4, none⟩ = some (.slice none 0 0) := b5.cell 4 rfl
  have q5 : W5.cell? ⟨w.heap.size, 5, none⟩ = some (.slice none 0 0) := b5.cell 5 rfl
  have q6 : W5.cell? ⟨w.heap.size, 6, none⟩ = some (.slice none 0 0) := b5.cell 6 rfl
  have q7 : W5.cell? ⟨w.heap.size, 7, none⟩ = some (.slice none 0 0) := b5.cell 7 rfl
  have q8 : W5.cell? ⟨w.heap.size, 8, none⟩ = some (.slice none 0 0) := b5.cell 8 rfl
  have q0 : W5.cell? ⟨w.heap.size, 0, none⟩ = some (.string ⟨#[]⟩) := b5.cell 0 rfl
  exact bodyPost_ret (v := .tuple #[contentV ⟨#[]⟩, .bool false]) (by simp [results, Tryz.results13, go_sem, contentV, q0, q1, q2, q3, q4, q5, q6, q7, q8]) rfl ⟨rfl, hb5⟩
end Go.Proofs.YtifkpibjeamfkaaGreatFmt
