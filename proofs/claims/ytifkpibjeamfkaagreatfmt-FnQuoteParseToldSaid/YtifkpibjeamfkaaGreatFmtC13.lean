/- parseToFile at a module line and a line that is refused. -/
import Derived.Test.YtifkpibjeamfkaaGreatFmtC12
set_option linter.unusedVariables false
namespace Go.Proofs.YtifkpibjeamfkaaGreatFmt
open Go.RowKit Go.Proofs

/-- add refuses the line (verb path version): one error is laid; nothing else that was there turns. -/
def BadAdd (w0 : World) (vb path s : ByteArray) : Prop := ∀ (R cap : Nat) (cur : Array Value) (w : World) (f E F L : Nat) (nm : ByteArray) (a1 a2 a3 : Int) (fcs Fcs Lcs : Array Value),
    Blk w E 121 #[.slice none 0 0] → Blk w f 89 fcs → Blk w F 129 Fcs → Blk w L 136 Lcs →
    fcs[10]? = some (.pointer (some ⟨F, 0, none⟩)) → Fcs[0]? = some (.string nm) → Lcs[3]? = some (.int .i64 a1) → Lcs[4]? = some (.int .i64 a2) → Lcs[5]? = some (.int .i64 a3) →
    Blk w R 9 cur → cur[1]? = some (.string path) → cur[2]? = some (.string s) → PrTab w → 0 < w.heap.size → w.tape = w0.tape →
    Calls Tryz.prog 52 #[.pointer (some ⟨f, 0, none⟩), .pointer (some ⟨E, 0, none⟩), .pointer none, .pointer (some ⟨L, 0, none⟩), .string vb, .slice (some ⟨R, 1, none⟩) 2 cap, .nilFunc, .bool true] w fun e w' =>
      e = .returned (.tuple #[]) ∧ Kp (fun k => k = E) w w' ∧ ∃ g cap, Blk w' E 121 #[.slice (some ⟨g, 0, none⟩) 1 cap]

theorem BadAdd.version (w0 : World) (path s : ByteArray) (n : Nat) (hp : Plain path) (hs : Plain s) (hn : s.size = n + 1) (hv : bt s 0 ≠ 118) : BadAdd w0 reqB path s ∧ BadAdd w0 excB path s := by
  constructor
  · intro R cap cur w f E F L nm a1 a2 a3 fcs Fcs Lcs hE hf hF hL hf10 hF0 hL3 hL4 hL5 hR h0 h1 hpr hP _
    exact add_bad_req R cap cur path s n w f E F L nm a1 a2 a3 fcs Fcs Lcs hE hf hF hL hf10 hF0 hL3 hL4 hL5 hR h0 h1 hp hs hn hv hpr hP
  · intro R cap cur w f E F L nm a1 a2 a3 fcs Fcs Lcs hE hf hF hL hf10 hF0 hL3 hL4 hL5 hR h0 h1 hpr hP _
    exact add_bad_exc R cap cur path s n w f E F L nm a1 a2 a3 fcs Fcs Lcs hE hf hF hL hf10 hF0 hL3 hL4 hL5 hR h0 h1 hp hs hn hv hpr hP

set_option maxRecDepth 100000 in
set_option maxHeartbeats 8000000 in
theorem ptf_bad (w : World) (D C : Nat) (nm : ByteArray) (u vb pa ve : List UInt8) (s : ByteArray) (h : TxtAt w D C (docTxt [[modB, u], [], [vb, pa, ve]])) (hu : Wd u) (hvb : Wd vb) (hpa : Wd pa) (hve : Wd ve)
    (hps : ∀ (R : Nat) (cur : Array Value), cur[1]? = some (.string (mkS u)) → Reads1 R 1 cur s) (hbad : BadAdd w (mkS vb) (mkS pa) (mkS ve))
    (hpr : PrTab w) (hP : 0 < w.heap.size) :
    Calls Tryz.prog 46 #[.string nm, .slice (some ⟨D, 0, none⟩) (docTxt [[modB, u], [], [vb, pa, ve]]).length C, .nilFunc, .bool true] w
      fun e w' => (∃ t v, e = .returned (.tuple #[.pointer none, .iface t v])) ∧ Below w.heap.size w w' := by
  have hmf : ∀ (fn : Fn) (first cap : Array Value) (w : World), (Instr.makeFunc fn first cap).run Tryz.prog w = .ok (.func fn first cap) w := fun _ _ _ _ => rfl
  have H := hide h
  have HP := hide hpr
  have HS := hide hps
  have HU := hide (And.intro hu (And.intro hvb (And.intro hpa hve)))
  have HX := hide hbad
  clear h hpr hps hu hvb hpa hve hbad
  go_enter_defers Tryz.func46, Tryz.ntmps46
  go_wp2_with fail
  have bx := ((Blk.new w 75 #[Value.nilFunc]).alloc (Obj.cells #[Value.pointer none] 64)).alloc (Obj.cells #[Value.nilIface] 66)
  have bp := (Blk.new' (w.alloc (Obj.cells #[Value.nilFunc] 75)) 64 #[Value.pointer none] (w.heap.size + 1) (by simp)).alloc (Obj.cells #[Value.nilIface] 66)
  have be := Blk.new' ((w.alloc (Obj.cells #[Value.nilFunc] 75)).alloc (Obj.cells #[Value.pointer none] 64)) 66 #[Value.nilIface] (w.heap.size + 1 + 1) (by simp)
  have hb0 : Below w.heap.size w (((w.alloc (Obj.cells #[Value.nilFunc] 75)).alloc (Obj.cells #[Value.pointer none] 64)).alloc (Obj.cells #[Value.nilIface] 66)) :=
    (((Below.refl _ w).alloc (Nat.le_refl _) _).alloc (by simp) _).alloc (by simp; omega) _
  generalize ((w.alloc (Obj.cells #[Value.nilFunc] 75)).alloc (Obj.cells #[Value.pointer none] 64)).alloc (Obj.cells #[Value.nilIface] 66) = W at bx bp be hb0 ⊢
  have hprW : PrTab W := HP.out.keptT (N := w.heap.size) (S := fun _ => True) ⟨hb0, fun k cs t fz e hn => absurd True.intro hn⟩ hP
  have hwd : ∀ l ∈ [[modB, u], [], [vb, pa, ve]], ∀ x ∈ l, Wd x := by
    intro l hl x hx
    simp at hl
    rcases hl with rfl | rfl | rfl
    · simp at hx; rcases hx with rfl | rfl
      · exact wd_mod
      · exact HU.out.1
    · simp at hx
    · simp at hx; rcases hx with rfl | rfl | rfl
      · exact HU.out.2.1
      · exact HU.out.2.2.1
      · exact HU.out.2.2.2
  have HWD := hide hwd
  clear hwd
  go_fit (parse_doc W D C nm [[modB, u], [], [vb, pa, ve]] (H.out.below hb0) HWD.out (by simp) (by simp [lsOf]) (by simp) hprW (Nat.lt_of_lt_of_le hP hb0.size))
  rintro e w1 ⟨F, Ls, rfl, hb1, hF, hls⟩
  cases hls with
  | cons hl hls =>
  cases hls with
  | cons hl' hnil =>
  cases hnil
  rename_i L L'
  obtain ⟨R, cap, cur, a1, a2, a3, b1, b2, b3, bL, bR, hNR, hc1, hc2, hcur⟩ := hl.open (n := 1) rfl
  obtain ⟨R', cap', cur', a1', a2', a3', b1', b2', b3', bL', bR', hNR', hc1', hc2', hcur'⟩ := hl'.open (n := 2) rfl
  obtain ⟨G, gcap, gcur, bF, bG, hNG, hgcur⟩ := hF.open (n := 1) rfl
  have hcm : cur[0]? = some (.string (mkS modB)) := hcur 0 (by simp)
  have hcu : cur[1]? = some (.string (mkS u)) := hcur 1 (by simp)
  have hcv' : cur'[0]? = some (.string (mkS vb)) := hcur' 0 (by simp)
  have hcp' : cur'[1]? = some (.string (mkS pa)) := hcur' 1 (by simp)
  have hce' : cur'[2]? = some (.string (mkS ve)) := hcur' 2 (by simp)
  have hg0 : gcur[0]? = some (lineV L) := hgcur 0 (by simp)
  have hg1 : gcur[1]? = some (lineV L') := hgcur 1 (by simp)
  have kp1 := Kp.of_below (X := fun _ => False) hb1
  have bx1 := bx.kept kp1 (fun h => h)
  have bp1 := bp.kept kp1 (fun h => h)
  have be1 := be.kept kp1 (fun h => h)
  have se1 : w1.setCell ⟨w.heap.size + 1 + 1, 0, none⟩ .nilIface = w1 := be1.set_id rfl
  have ee1 : w1.cell? ⟨w.heap.size + 1 + 1, 0, none⟩ = some .nilIface := be1.cell 0 rfl
  have fe1 : ∀ j, w1.frozen? ⟨w.heap.size + 1 + 1, j, none⟩ = false := fun j => be1.free j
  have hb01 := hb0.trans (hb1.mono hb0.size)
  have hpr1 : PrTab w1 := hprW.keptT (N := W.heap.size) (S := fun _ => True) ⟨hb1, fun k cs t fz e hn => absurd True.intro hn⟩ (Nat.lt_of_lt_of_le hP hb0.size)
  have HB := hide (And.intro bx1 (And.intro bp1 (And.intro be1 (And.intro bL (And.intro bR (And.intro bF bG))))))
  have HB' := hide (And.intro bL' bR')
  have HC := hide (And.intro hcm (And.intro hcu hg0))
  have HC' := hide (And.intro hcv' (And.intro hcp' (And.intro hce' hg1)))
  have HB01 := hide hb01
  have HP1 := hide hpr1
  have cS : w1.cell? ⟨F, 4, none⟩ = some (.slice (some ⟨G, 0, none⟩) 2 gcap) := bF.cell 4 rfl
  have lF : F < w1.heap.size := bF.lt
  have lF1 : F < w1.heap.size + 1 := by omega
  have lF2 : F < w1.heap.size + 1 + 1 := by omega
  have lF3 : F < w1.heap.size + 1 + 1 + 1 := by omega
  clear hcur hgcur hcur' hF kp1 bx1 bp1 be1 hb01 hpr1 bL bR bF bG hcm hcu hg0 hb1 hb0 bx bp be hprW hl hl' bL' bR' hcv' hcp' hce' hg1
  go_wp2_with fail
  have hW2 : ∀ Wx, Wx = ((w1.alloc (Obj.cells (fileCells (.pointer none) F) 89)).alloc (Obj.cells #[Value.pointer (some ⟨w1.heap.size, 0, none⟩)] 64)).alloc (Obj.cells #[Value.slice none 0 0] 121) →
      Blk Wx w1.heap.size 89 (fileCells (.pointer none) F) ∧ Blk Wx (w1.heap.size + 1) 64 #[Value.pointer (some ⟨w1.heap.size, 0, none⟩)] ∧ Blk Wx (w1.heap.size + 1 + 1) 121 #[Value.slice none 0 0] ∧ Below w1.heap.size w1 Wx := by
    rintro Wx rfl
    exact ⟨((Blk.new w1 _ _).alloc _).alloc _, (Blk.new' _ _ _ _ (by simp)).alloc _, Blk.new' _ _ _ _ (by simp), (((Below.refl _ w1).alloc (Nat.le_refl _) _).alloc (by simp) _).alloc (by simp; omega) _⟩
  have hW3 := hide (hW2 _ rfl)
  clear hW2
  unfold fileCells nilS at hW3
  generalize ((w1.alloc (Obj.cells #[Value.pointer none, Value.pointer none, Value.pointer none, Value.slice none 0 0, Value.slice none 0 0, Value.slice none 0 0, Value.slice none 0 0, Value.slice none 0 0, Value.slice none 0 0, Value.slice none 0 0, Value.pointer (some ⟨F, 0, none⟩)] 89)).alloc (Obj.cells #[Value.pointer (some ⟨w1.heap.size, 0, none⟩)] 64)).alloc (Obj.cells #[Value.slice none 0 0] 121) = W2 at hW3 ⊢
  have kp2 := Kp.of_below (X := fun _ => False) hW3.out.2.2.2
  have hpr2 := HP1.out.keptT (N := w1.heap.size) (S := fun _ => True) ⟨hW3.out.2.2.2, fun k cs t fz e hn => absurd True.intro hn⟩ (Nat.lt_of_lt_of_le hP HB01.out.size)
  have HP2 := hide hpr2
  have bL := HB.out.2.2.2.1.kept kp2 (fun h => h)
  have bR := HB.out.2.2.2.2.1.kept kp2 (fun h => h)
  have bF := HB.out.2.2.2.2.2.1.kept kp2 (fun h => h)
  have bG := HB.out.2.2.2.2.2.2.kept kp2 (fun h => h)
  have bL' := HB'.out.1.kept kp2 (fun h => h)
  have bR' := HB'.out.2.kept kp2 (fun h => h)
  have bx := HB.out.1.kept kp2 (fun h => h)
  have g0 : W2.cell? ⟨G, 0, none⟩ = some (.iface 92 (.pointer (some ⟨L, 0, none⟩))) := bG.cell 0 HC.out.2.2
  have l6 : W2.cell? ⟨L, 6, none⟩ = some (.slice (some ⟨R, 0, none⟩) 2 cap) := bL.cell 6 rfl
  have r0 : W2.cell? ⟨R, 0, none⟩ = some (.string ⟨#[109, 111, 100, 117, 108, 101]⟩) := bR.cell 0 HC.out.1
  have x0 : W2.cell? ⟨w.heap.size, 0, none⟩ = some .nilFunc := bx.cell 0 rfl
  have vf0 : W2.cell? ⟨w1.heap.size + 1, 0, none⟩ = some (.pointer (some ⟨w1.heap.size, 0, none⟩)) := hW3.out.2.1.cell 0 rfl
  have hlt1 : w.heap.size + 1 + 1 < w1.heap.size := HB.out.2.2.1.lt
  have hcapI : (1 : Int) < (cap : Int) := by omega
  have hcapN : 1 < cap := by omega
  have hcap1 : ¬ cap = 1 := by omega
  have hcapI' : (1 : Int) < (cap' : Int) := by omega
  have hcapN' : 1 < cap' := by omega
  have hcap1' : ¬ cap' = 1 := by omega
  have BL := hide bL
  have BR := hide bR
  have BF := hide bF
  have BG := hide bG
  have BX := hide bx
  have BLR' := hide (And.intro bL' bR')
  clear kp2 hpr2 bL bR bF bG bx bL' bR'
  refine wp_loop_rounds 3 ?_
  rw [rounds_succ]
  go_wp2_with fail
  have HM := hide (add_module R (cap - 1) cur s W2.drew w1.heap.size (w1.heap.size + 1 + 1) L _ _ hW3.out.1.drew BL.out.drew BR.out.drew rfl rfl rfl (HS.out R cur HC.out.2.1) HP2.out (Nat.lt_of_lt_of_le (Nat.lt_of_lt_of_le hP HB01.out.size) hW3.out.2.2.2.size))
  go_region_held3 (fun w' => w'.cell? ⟨w1.heap.size + 1, 0, none⟩ = some (.pointer (some ⟨w1.heap.size, 0, none⟩)) ∧ w'.cell? ⟨L, 6, none⟩ = some (.slice (some ⟨R, 0, none⟩) 2 cap) ∧ w'.cell? ⟨R, 0, none⟩ = some (.string ⟨#[109, 111, 100, 117, 108, 101]⟩) ∧ w'.cell? ⟨w.heap.size, 0, none⟩ = some .nilFunc) (go_keep)
    ((go_fit HM.out; rintro e w4 ⟨rfl, hk4, M, bf4, cM4, hM4⟩; have bff4 := hW3.out.2.1.drew.kept hk4 (by omega); have bE4 := hW3.out.2.2.1.drew.kept hk4 (by omega); have bL4 := BL.out.drew.kept hk4 (BL.out.ne hW3.out.1 (by decide)); have bR4 := BR.out.drew.kept hk4 (BR.out.ne hW3.out.1 (by decide)); have bx4 := BX.out.drew.kept hk4 (BX.out.ne hW3.out.1 (by decide)); have vf4 : w4.cell? ⟨w1.heap.size + 1, 0, none⟩ = some (.pointer (some ⟨w1.heap.size, 0, none⟩)) := bff4.cell 0 rfl; have l64 : w4.cell? ⟨L, 6, none⟩ = some (.slice (some ⟨R, 0, none⟩) 2 cap) := bL4.cell 6 rfl; have r04 : w4.cell? ⟨R, 0, none⟩ = some (.string ⟨#[109, 111, 100, 117, 108, 101]⟩) := bR4.cell 0 HC.out.1; have x04 : w4.cell? ⟨w.heap.size, 0, none⟩ = some .nilFunc := bx4.cell 0 rfl; have bp4 := ((HB.out.2.1.kept (Kp.of_below (X := fun _ => False) hW3.out.2.2.2) (fun h => h)).drew).kept hk4 (by omega); have be4 := ((HB.out.2.2.1.kept (Kp.of_below (X := fun _ => False) hW3.out.2.2.2) (fun h => h)).drew).kept hk4 (by omega); have bG4 := BG.out.drew.kept hk4 (BG.out.ne hW3.out.1 (by decide)); have bF4 := BF.out.drew.kept hk4 (BF.out.ne hW3.out.1 (by decide)); have bLx4 := BLR'.out.1.drew.kept hk4 (BLR'.out.1.ne hW3.out.1 (by decide)); have bRx4 := BLR'.out.2.drew.kept hk4 (BLR'.out.2.ne hW3.out.1 (by decide)); have g14 : w4.cell? ⟨G, 1, none⟩ = some (.iface 92 (.pointer (some ⟨L', 0, none⟩))) := bG4.cell 1 HC'.out.2.2.2; have lx4 : w4.cell? ⟨L', 6, none⟩ = some (.slice (some ⟨R', 0, none⟩) 3 cap') := bLx4.cell 6 rfl; have rx4 : w4.cell? ⟨R', 0, none⟩ = some (.string (mkS vb)) := bRx4.cell 0 HC'.out.1; have BFF4 := hide (And.intro bff4 (And.intro bE4 (And.intro bx4 (And.intro bp4 (And.intro be4 (And.intro bF4 (And.intro bLx4 bRx4))))))); have H4 := hide (And.intro hk4 (And.intro bf4 (And.intro cM4 hM4))); clear hk4 bf4 cM4 hM4 bff4 bE4 bL4 bR4 bx4 bp4 be4 bF4 bLx4 bRx4 bG4))
  have k04 : Below w.heap.size w w4 := by
    have k1 := (HB01.out.trans (hW3.out.2.2.2.mono HB01.out.size)).drew
    exact k1.trans (H4.out.1.below (B := w.heap.size) k1.size (fun k e => by rw [e]; omega))
  have hpr4 : PrTab w4 := HP.out.keptT (N := w.heap.size) (S := fun _ => True) ⟨k04, fun k cs t fz e hn => absurd True.intro hn⟩ hP
  have HP4 := hide hpr4
  have K04 := hide k04
  clear hpr4 k04 HM g0 l6 r0 x0 vf0 r04 l64
  go_wp2_with fail
  rw [rounds_succ]
  go_wp2_with fail
  have HM := hide (HX.out R' (cap' - 1) cur' w4.drew w1.heap.size (w1.heap.size + 1 + 1) F L' nm _ _ _ _ _ _ BFF4.out.2.1.drew H4.out.2.1.drew BFF4.out.2.2.2.2.2.1.drew BFF4.out.2.2.2.2.2.2.1.drew rfl rfl rfl rfl rfl BFF4.out.2.2.2.2.2.2.2.drew HC'.out.2.1 HC'.out.2.2.1 HP4.out (Nat.lt_of_lt_of_le hP K04.out.size) K04.out.tape)
  go_region_held3 (fun w' => w'.cell? ⟨w1.heap.size + 1, 0, none⟩ = some (.pointer (some ⟨w1.heap.size, 0, none⟩)) ∧ w'.cell? ⟨L', 6, none⟩ = some (.slice (some ⟨R', 0, none⟩) 3 cap') ∧ w'.cell? ⟨R', 0, none⟩ = some (.string (mkS vb)) ∧ w'.cell? ⟨w.heap.size, 0, none⟩ = some .nilFunc) (go_keep)
    ((go_fit HM.out; rintro e w5 ⟨rfl, hk5, eg, ecap, bE5⟩; have bff5 := BFF4.out.1.drew.kept hk5 (by omega); have bLx5 := BFF4.out.2.2.2.2.2.2.1.drew.kept hk5 (BFF4.out.2.2.2.2.2.2.1.ne BFF4.out.2.1 (by decide)); have bRx5 := BFF4.out.2.2.2.2.2.2.2.drew.kept hk5 (BFF4.out.2.2.2.2.2.2.2.ne BFF4.out.2.1 (by decide)); have bx5 := BFF4.out.2.2.1.drew.kept hk5 (BFF4.out.2.2.1.ne BFF4.out.2.1 (by decide)); have bp5 := BFF4.out.2.2.2.1.drew.kept hk5 (BFF4.out.2.2.2.1.ne BFF4.out.2.1 (by decide)); have be5 := BFF4.out.2.2.2.2.1.drew.kept hk5 (BFF4.out.2.2.2.2.1.ne BFF4.out.2.1 (by decide)); have vf5 : w5.cell? ⟨w1.heap.size + 1, 0, none⟩ = some (.pointer (some ⟨w1.heap.size, 0, none⟩)) := bff5.cell 0 rfl; have l65 : w5.cell? ⟨L', 6, none⟩ = some (.slice (some ⟨R', 0, none⟩) 3 cap') := bLx5.cell 6 rfl; have r05 : w5.cell? ⟨R', 0, none⟩ = some (.string (mkS vb)) := bRx5.cell 0 HC'.out.1; have x05 : w5.cell? ⟨w.heap.size, 0, none⟩ = some .nilFunc := bx5.cell 0 rfl; have vE5 : w5.cell? ⟨w1.heap.size + 1 + 1, 0, none⟩ = some (.slice (some ⟨eg, 0, none⟩) 1 ecap) := bE5.cell 0 rfl; have fp5 : ∀ j, w5.frozen? ⟨w.heap.size + 1, j, none⟩ = false := fun j => bp5.free j; have fe5 : ∀ j, w5.frozen? ⟨w.heap.size + 1 + 1, j, none⟩ = false := fun j => be5.free j; have ep5 : w5.cell? ⟨w.heap.size + 1, 0, none⟩ = some (.pointer none) := bp5.cell 0 rfl; have ee5 : w5.cell? ⟨w.heap.size + 1 + 1, 0, none⟩ = some .nilIface := be5.cell 0 rfl; have sp5 : w5.setCell ⟨w.heap.size + 1, 0, none⟩ (.pointer none) = w5 := bp5.set_id rfl; have BFF5 := hide (And.intro bff5 (And.intro bE5 (And.intro bx5 (And.intro bp5 be5)))); have K5 := hide hk5; clear hk5 bff5 bE5 bx5 bp5 be5 bLx5 bRx5))
  clear HM lx4 rx4 g14 vf4 x04
  have q1 : w.heap.size + 1 ≠ w1.heap.size + 1 + 1 := by omega
  have q2 : w.heap.size + 1 + 1 ≠ w1.heap.size + 1 + 1 := by omega
  have q3 : w1.heap.size ≠ w.heap.size := by omega
  have q4 : w.heap.size ≠ w1.heap.size := by omega
  have q5 : w1.heap.size + 1 ≠ w.heap.size := by omega
  have q6 : w.heap.size ≠ w1.heap.size + 1 := by omega
  have q1' : w1.heap.size + 1 + 1 ≠ w.heap.size + 1 := by omega
  have q2' : w1.heap.size + 1 + 1 ≠ w.heap.size + 1 + 1 := by omega
  go_wp2_with fail
  rw [rounds_succ]
  go_wp2_with fail
  go_region_held3 (fun w' => w'.cell? ⟨w1.heap.size + 1 + 1, 0, none⟩ = some (.slice (some ⟨eg, 0, none⟩) 1 ecap)) (go_keep) (fail)
  all_goals go_wp2_with fail
  have hW5 : ∀ Wx, Wx = (w5.setCell ⟨w.heap.size + 1 + 1, 0, none⟩ (.iface 121 (.slice (some ⟨eg, 0, none⟩) 1 ecap))).drew →
      Blk Wx (w.heap.size + 1) 64 #[.pointer none] ∧ Blk Wx (w.heap.size + 1 + 1) 66 #[.iface 121 (.slice (some ⟨eg, 0, none⟩) 1 ecap)] ∧ Blk Wx (w1.heap.size + 1 + 1) 121 #[Value.slice (some ⟨eg, 0, none⟩) 1 ecap] ∧ Blk Wx (w1.heap.size + 1) 64 #[Value.pointer (some ⟨w1.heap.size, 0, none⟩)] ∧
      Blk Wx w.heap.size 75 #[Value.nilFunc] ∧ Below w.heap.size w Wx := by
    rintro Wx rfl
    obtain ⟨bff5, bE5, bx5, bp5, be5⟩ := BFF5.out
    refine ⟨(bp5.set_other (by simp) _).drew, (be5.set 0 _).drew, (bE5.set_other (by simp; omega) _).drew, (bff5.set_other (by simp; omega) _).drew, (bx5.set_other (by simp; omega) _).drew, ?_⟩
    have k1 := K04.out.drew
    have k2 := K5.out.below (B := w.heap.size) k1.size (fun k e => by rw [e]; omega)
    exact ((k1.trans k2).setCell (by simp; omega) _).drew
  have H5 := hide (hW5 _ rfl)
  clear hW5
  generalize (w5.setCell ⟨w.heap.size + 1 + 1, 0, none⟩ (.iface 121 (.slice (some ⟨eg, 0, none⟩) 1 ecap))).drew = W5 at H5 ⊢
  refine leaves_cons (f := 50) (args := #[.pointer (some ⟨w1.heap.size + 1 + 1, 0, none⟩), .pointer (some ⟨w1.heap.size + 1, 0, none⟩), .pointer (some ⟨w.heap.size, 0, none⟩), .pointer (some ⟨w.heap.size + 1, 0, none⟩), .pointer (some ⟨w.heap.size + 1 + 1, 0, none⟩)]) (by simp) (by simp [go_sem]) ?_
  refine (ptf_door (w1.heap.size + 1 + 1) (w1.heap.size + 1) w.heap.size (w.heap.size + 1) (w.heap.size + 1 + 1) w1.heap.size (some ⟨eg, 0, none⟩) 1 ecap W5 (H5.out.2.2.1.cell 0 rfl) (H5.out.2.2.2.1.cell 0 rfl) (H5.out.2.2.2.2.1.cell 0 rfl)).mono ?_
  rintro e u' w6 ⟨rfl, rfl, hb6⟩
  have kp6 := Kp.of_below (X := fun _ => False) hb6
  have ep6 : w6.cell? ⟨w.heap.size + 1, 0, none⟩ = some (.pointer none) := (H5.out.1.kept kp6 (fun h => h)).cell 0 rfl
  have ee6 : w6.cell? ⟨w.heap.size + 1 + 1, 0, none⟩ = some (.iface 121 (.slice (some ⟨eg, 0, none⟩) 1 ecap)) := (H5.out.2.1.kept kp6 (fun h => h)).cell 0 rfl
  simp [Leaves, settle, results, Tryz.results46, go_sem, ep6, ee6]
  exact H5.out.2.2.2.2.2.trans (hb6.mono H5.out.2.2.2.2.2.size)
end Go.Proofs.YtifkpibjeamfkaaGreatFmt
