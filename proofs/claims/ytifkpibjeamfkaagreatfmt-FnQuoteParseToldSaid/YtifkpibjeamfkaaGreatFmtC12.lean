/- parseToFile: its door; one line of module; a module line and a line that is refused. -/
import Derived.Test.YtifkpibjeamfkaaGreatFmtC11
import Derived.Test.YtifkpibjeamfkaaGreatFmtD1
import Derived.Test.YtifkpibjeamfkaaGreatFmtT0
import Derived.Defers
set_option linter.unusedVariables false
namespace Go.Proofs.YtifkpibjeamfkaaGreatFmt
open Go.RowKit Go.Proofs

theorem fixRetract_nil (f E : Nat) (w : World) : Calls Tryz.prog 51 #[.pointer (some ⟨f, 0, none⟩), .nilFunc, .pointer (some ⟨E, 0, none⟩)] w fun e w' => e = .returned (.tuple #[]) ∧ Below w.heap.size w w' := by
  have hq : ∀ (w : World), (binOp .eql 75 .nilFunc .nilFunc).run Tryz.prog w = .ok (.bool true) w := fun w => by kernel_rfl
  go_enter Tryz.func51, Tryz.ntmps51
  go_wp2_with fail
  go_returns
  exact ⟨rfl, ((Below.refl _ w).alloc (Nat.le_refl _) _).alloc (by simp) _⟩

theorem ptf_door (vE vf vx vp ve f : Nat) (a : Option Addr) (n c : Nat) (w : World) (hE : w.cell? ⟨vE, 0, none⟩ = some (.slice a n c)) (hf : w.cell? ⟨vf, 0, none⟩ = some (.pointer (some ⟨f, 0, none⟩))) (hx : w.cell? ⟨vx, 0, none⟩ = some .nilFunc) :
    CallsD Tryz.prog 50 #[.pointer (some ⟨vE, 0, none⟩), .pointer (some ⟨vf, 0, none⟩), .pointer (some ⟨vx, 0, none⟩), .pointer (some ⟨vp, 0, none⟩), .pointer (some ⟨ve, 0, none⟩)] .returning w
      fun e u' w' => u' = .returning ∧ e = .returned (.tuple #[]) ∧ Below w.heap.size w w' := by
  have hwrap : IntKind.i64.wrap (n : Int) = IntKind.i64.wrap (n : Int) := rfl
  refine callsD_of_wp Tryz.func50 rfl ?_
  simp only [Tryz.ntmps50, List.size_toArray, List.length_cons, List.length_nil, Nat.reduceAdd, Nat.reduceSub, Array.replicate_succ, Array.replicate_zero, List.push_toArray, List.append_toArray, List.nil_append, List.cons_append]
  clear hwrap
  go_wp2_with fail
  go_fit (fixRetract_nil f vE w)
  rintro e w1 ⟨rfl, hb⟩
  have hE1 : w1.cell? ⟨vE, 0, none⟩ = some (.slice a n c) := (hb.cell (p := ⟨vE, 0, none⟩) (World.block_lt_of_cell? w _ hE)).trans hE
  have HB := hide hb
  clear hb
  go_wp2_with fail
  go_returns
  exact ⟨rfl, HB.out⟩

theorem LineW.open {N : Nat} {w : World} {L n : Nat} {l : List (List UInt8)} (h : LineW N w L l) (hn : l.length = n + 1) : ∃ R cap cur a1 a2 a3 b1 b2 b3,
    Blk w L 136 #[nilS, nilS, nilS, .int .i64 a1, .int .i64 a2, .int .i64 a3, .slice (some ⟨R, 0, none⟩) (n + 1) cap, .bool false, .int .i64 b1, .int .i64 b2, .int .i64 b3] ∧ Blk w R 9 cur ∧ N ≤ R ∧ n + 1 ≤ cap ∧ cap ≤ maxLen ∧
    ∀ i (hi : i < l.length), cur[i]? = some (.string (mkS l[i])) := by
  obtain ⟨tv, a1, a2, a3, b1, b2, b3, hb, ho⟩ := h
  rw [hn] at ho
  rcases ho.2 with ⟨_, h2⟩ | ⟨g, cap, cur, rfl, hg, hh, hc1, hc2, hc3, hc4⟩
  · omega
  · refine ⟨g, cap, cur, a1, a2, a3, b1, b2, b3, hb, ⟨hh⟩, hg, hc1, hc2, fun i hi => ?_⟩
    have h1 := congrArg (fun l => l[i]?) hc4
    simp only [List.getElem?_take, List.getElem?_map] at h1
    rw [if_pos (by omega), List.getElem?_eq_getElem hi] at h1
    simpa using h1
theorem FileAt.open {N : Nat} {w : World} {F n : Nat} {nm : ByteArray} {xs : List Value} (h : FileAt N w F nm xs) (hn : xs.length = n + 1) : ∃ G cap cur,
    Blk w F 129 #[.string nm, nilS, nilS, nilS, .slice (some ⟨G, 0, none⟩) (n + 1) cap] ∧ Blk w G 131 cur ∧ N ≤ G ∧ ∀ i (hi : i < xs.length), cur[i]? = some xs[i] := by
  obtain ⟨v, hb, ho⟩ := h
  rw [hn] at ho
  rcases ho.2 with ⟨_, h2⟩ | ⟨g, cap, cur, rfl, hg, hh, hc1, hc2, hc3, hc4⟩
  · omega
  · refine ⟨g, cap, cur, hb, ⟨hh⟩, hg, fun i hi => ?_⟩
    have h1 := congrArg (fun l => l[i]?) hc4
    simp only [List.getElem?_take] at h1
    rw [if_pos (by omega), List.getElem?_eq_getElem hi] at h1
    simpa using h1

def modB : List UInt8 := [109, 111, 100, 117, 108, 101]
/-- A file's cells: its module, the rest is empty. -/
def fileCells (M : Value) (F : Nat) : Array Value := #[M, .pointer none, .pointer none, nilS, nilS, nilS, nilS, nilS, nilS, nilS, .pointer (some ⟨F, 0, none⟩)]

theorem TxtAt.below {w W : World} {D C : Nat} {T : List UInt8} (h : TxtAt w D C T) (hb : Below w.heap.size w W) : TxtAt W D C T := by
  obtain ⟨cs, fz, e⟩ := h.dat
  have hD : D < w.heap.size := (Array.getElem?_eq_some_iff.1 e).1
  exact ⟨fun j hj => (hb.cell (p := ⟨D, j, none⟩) hD).trans (h.cell j hj), h.ascii, h.hn, h.hC, h.hT, ⟨cs, fz, (hb.block D hD).trans e⟩⟩

/-- A letter, a digit or the like: no slash, no quote. -/
def safeB (c : Nat) : Bool := idB c && c != 47 && c != 34 && c != 96
theorem ch_mem (u : List UInt8) (i : Nat) (h : i < u.length) : ∃ c ∈ u, ch u i = c.toNat := ⟨u[i], List.getElem_mem h, by simp [ch, List.getD_eq_getElem?_getD, List.getElem?_eq_getElem h]⟩
theorem IdW.safe (u : List UInt8) (h0 : 0 < u.length) (h : ∀ c ∈ u, safeB c.toNat = true) : IdW u := by
  have key : ∀ i, i < u.length → idB (ch u i) = true ∧ ch u i ≠ 47 ∧ ch u i ≠ 34 ∧ ch u i ≠ 96 := by
    intro i hi
    obtain ⟨c, hc, e⟩ := ch_mem u i hi
    have := h c hc
    simp only [safeB, Bool.and_eq_true, bne_iff_ne, ne_eq] at this
    rw [e]
    exact ⟨this.1.1.1, this.1.1.2, this.1.2, this.2⟩
  exact ⟨h0, fun i hi => ⟨(key i hi).1, ⟨fun h => (key i hi).2.1 h.2.1, fun h => (key i hi).2.1 h.2.1⟩⟩, (key 0 h0).2.2.1, (key 0 h0).2.2.2⟩
theorem wd_mod : Wd modB := Or.inl (IdW.safe _ (by decide) (by decide))

set_option maxRecDepth 100000 in
set_option maxHeartbeats 4000000 in
theorem ptf_one (w : World) (D C : Nat) (nm : ByteArray) (u : List UInt8) (s : ByteArray) (h : TxtAt w D C (docTxt [[modB, u]])) (hu : Wd u) (hps : ∀ (R : Nat) (cur : Array Value), cur[1]? = some (.string (mkS u)) → Reads1 R 1 cur s)
    (hpr : PrTab w) (hP : 0 < w.heap.size) :
    Calls Tryz.prog 46 #[.string nm, .slice (some ⟨D, 0, none⟩) (docTxt [[modB, u]]).length C, .nilFunc, .bool true] w
      fun e w' => ∃ f F M, e = .returned (.tuple #[.pointer (some ⟨f, 0, none⟩), .nilIface]) ∧ Below w.heap.size w w' ∧ Blk w' f 89 (fileCells (.pointer (some ⟨M, 0, none⟩)) F) ∧ w'.cell? ⟨M, 0, none⟩ = some (.string s) := by
  have hmf : ∀ (fn : Fn) (first cap : Array Value) (w : World), (Instr.makeFunc fn first cap).run Tryz.prog w = .ok (.func fn first cap) w := fun _ _ _ _ => rfl
  have H := hide h
  have HP := hide hpr
  have HS := hide hps
  have HU := hide hu
  clear h hpr hps hu
  go_enter_defers Tryz.func46, Tryz.ntmps46
  go_wp2_with fail
  have bx := ((Blk.new w 75 #[Value.nilFunc]).alloc (Obj.cells #[Value.pointer none] 64)).alloc (Obj.cells #[Value.nilIface] 66)
  have bp := (Blk.new' (w.alloc (Obj.cells #[Value.nilFunc] 75)) 64 #[Value.pointer none] (w.heap.size + 1) (by simp)).alloc (Obj.cells #[Value.nilIface] 66)
  have be := Blk.new' ((w.alloc (Obj.cells #[Value.nilFunc] 75)).alloc (Obj.cells #[Value.pointer none] 64)) 66 #[Value.nilIface] (w.heap.size + 1 + 1) (by simp)
  have hb0 : Below w.heap.size w (((w.alloc (Obj.cells #[Value.nilFunc] 75)).alloc (Obj.cells #[Value.pointer none] 64)).alloc (Obj.cells #[Value.nilIface] 66)) :=
    (((Below.refl _ w).alloc (Nat.le_refl _) _).alloc (by simp) _).alloc (by simp; omega) _
  generalize ((w.alloc (Obj.cells #[Value.nilFunc] 75)).alloc (Obj.cells #[Value.pointer none] 64)).alloc (Obj.cells #[Value.nilIface] 66) = W at bx bp be hb0 ⊢
  have hprW : PrTab W := HP.out.keptT (N := w.heap.size) (S := fun _ => True) ⟨hb0, fun k cs t fz e hn => absurd True.intro hn⟩ hP
  go_fit (parse_doc W D C nm [[modB, u]] (H.out.below hb0) (by intro l hl x hx; simp at hl; subst hl; simp at hx; rcases hx with rfl | rfl; exact wd_mod; exact HU.out) (by simp) (by simp [lsOf]) (by simp) hprW (Nat.lt_of_lt_of_le hP hb0.size))
  rintro e w1 ⟨F, Ls, rfl, hb1, hF, hls⟩
  cases hls with
  | cons hl hnil =>
  cases hnil
  rename_i L
  obtain ⟨R, cap, cur, a1, a2, a3, b1, b2, b3, bL, bR, hNR, hc1, hc2, hcur⟩ := hl.open (n := 1) rfl
  obtain ⟨G, gcap, gcur, bF, bG, hNG, hgcur⟩ := hF.open (n := 0) rfl
  have hcm : cur[0]? = some (.string (mkS modB)) := hcur 0 (by simp)
  have hcu : cur[1]? = some (.string (mkS u)) := hcur 1 (by simp)
  have hg0 : gcur[0]? = some (lineV L) := hgcur 0 (by simp)
  have kp1 := Kp.of_below (X := fun _ => False) hb1
  have bx1 := bx.kept kp1 (fun h => h)
  have bp1 := bp.kept kp1 (fun h => h)
  have be1 := be.kept kp1 (fun h => h)
  have se1 : w1.setCell ⟨w.heap.size + 1 + 1, 0, none⟩ .nilIface = w1 := be1.set_id rfl
  have ee1 : w1.cell? ⟨w.heap.size + 1 + 1, 0, none⟩ = some .nilIface := be1.cell 0 rfl
  have fe1 : ∀ j, w1.frozen? ⟨w.heap.size + 1 + 1, j, none⟩ = false := fun j => be1.free j
  have hb01 := hb0.trans (hb1.mono hb0.size)
  have hpr1 : PrTab w1 := hprW.keptT (N := W.heap.size) (S := fun _ => True) ⟨hb1, fun k cs t fz e hn => absurd True.intro hn⟩ (Nat.lt_of_lt_of_le hP hb0.size)
  have HB := hide (And.intro bx1 (And.intro bp1 (And.intro be1 (And.intro bL (And.intro bR (And.intro bF bG))))))
  have HC := hide (And.intro hcm (And.intro hcu hg0))
  have HB01 := hide hb01
  have HP1 := hide hpr1
  have cS : w1.cell? ⟨F, 4, none⟩ = some (.slice (some ⟨G, 0, none⟩) 1 gcap) := bF.cell 4 rfl
  have lF : F < w1.heap.size := bF.lt
  have lF1 : F < w1.heap.size + 1 := by omega
  have lF2 : F < w1.heap.size + 1 + 1 := by omega
  have lF3 : F < w1.heap.size + 1 + 1 + 1 := by omega
  clear hcur hgcur hF kp1 bx1 bp1 be1 hb01 hpr1 bL bR bF bG hcm hcu hg0 hb1 hb0 bx bp be hprW hl
  go_wp2_with fail
  have hW2 : ∀ Wx, Wx = ((w1.alloc (Obj.cells (fileCells (.pointer none) F) 89)).alloc (Obj.cells #[Value.pointer (some ⟨w1.heap.size, 0, none⟩)] 64)).alloc (Obj.cells #[Value.slice none 0 0] 121) →
      Blk Wx w1.heap.size 89 (fileCells (.pointer none) F) ∧ Blk Wx (w1.heap.size + 1) 64 #[Value.pointer (some ⟨w1.heap.size, 0, none⟩)] ∧ Blk Wx (w1.heap.size + 1 + 1) 121 #[Value.slice none 0 0] ∧ Below w1.heap.size w1 Wx := by
    rintro Wx rfl
    exact ⟨((Blk.new w1 _ _).alloc _).alloc _, (Blk.new' _ _ _ _ (by simp)).alloc _, Blk.new' _ _ _ _ (by simp), (((Below.refl _ w1).alloc (Nat.le_refl _) _).alloc (by simp) _).alloc (by simp; omega) _⟩
  have hW3 := hide (hW2 _ rfl)
  clear hW2
  unfold fileCells nilS at hW3
  generalize ((w1.alloc (Obj.cells #[Value.pointer none, Value.pointer none, Value.pointer none, Value.slice none 0 0, Value.slice none 0 0, Value.slice none 0 0, Value.slice none 0 0, Value.slice none 0 0, Value.slice none 0 0, Value.slice none 0 0, Value.pointer (some ⟨F, 0, none⟩)] 89)).alloc (Obj.cells #[Value.pointer (some ⟨w1.heap.size, 0, none⟩)] 64)).alloc (Obj.cells #[Value.slice none 0 0] 121) = W2 at hW3 ⊢
  have kp2 := Kp.of_below (X := fun _ => False) hW3.out.2.2.2
  have hpr2 := HP1.out.keptT (N := w1.heap.size) (S := fun _ => True) ⟨hW3.out.2.2.2, fun k cs t fz e hn => absurd True.intro hn⟩ (Nat.lt_of_lt_of_le hP HB01.out.size)
  have HP2 := hide hpr2
  have bL := HB.out.2.2.2.1.kept kp2 (fun h => h)
  have bR := HB.out.2.2.2.2.1.kept kp2 (fun h => h)
  have bG := HB.out.2.2.2.2.2.2.kept kp2 (fun h => h)
  have bx := HB.out.1.kept kp2 (fun h => h)
  have g0 : W2.cell? ⟨G, 0, none⟩ = some (.iface 92 (.pointer (some ⟨L, 0, none⟩))) := bG.cell 0 HC.out.2.2
  have l6 : W2.cell? ⟨L, 6, none⟩ = some (.slice (some ⟨R, 0, none⟩) 2 cap) := bL.cell 6 rfl
  have r0 : W2.cell? ⟨R, 0, none⟩ = some (.string ⟨#[109, 111, 100, 117, 108, 101]⟩) := bR.cell 0 HC.out.1
  have x0 : W2.cell? ⟨w.heap.size, 0, none⟩ = some .nilFunc := bx.cell 0 rfl
  have vf0 : W2.cell? ⟨w1.heap.size + 1, 0, none⟩ = some (.pointer (some ⟨w1.heap.size, 0, none⟩)) := hW3.out.2.1.cell 0 rfl
  have hlt1 : w.heap.size + 1 + 1 < w1.heap.size := HB.out.2.2.1.lt
  have hcapI : (1 : Int) < (cap : Int) := by omega
  have hcapN : 1 < cap := by omega
  have hcap1 : ¬ cap = 1 := by omega
  have BL := hide bL
  have BR := hide bR
  have BG := hide bG
  have BX := hide bx
  clear kp2 hpr2 bL bR bG bx
  refine wp_loop_rounds 2 ?_
  rw [rounds_succ]
  go_wp2_with fail
  have HM := hide (add_module R (cap - 1) cur s W2.drew w1.heap.size (w1.heap.size + 1 + 1) L _ _ hW3.out.1.drew BL.out.drew BR.out.drew rfl rfl rfl (HS.out R cur HC.out.2.1) HP2.out (Nat.lt_of_lt_of_le (Nat.lt_of_lt_of_le hP HB01.out.size) hW3.out.2.2.2.size))
  go_region_held3 (fun w' => w'.cell? ⟨w1.heap.size + 1, 0, none⟩ = some (.pointer (some ⟨w1.heap.size, 0, none⟩)) ∧ w'.cell? ⟨L, 6, none⟩ = some (.slice (some ⟨R, 0, none⟩) 2 cap) ∧ w'.cell? ⟨R, 0, none⟩ = some (.string ⟨#[109, 111, 100, 117, 108, 101]⟩) ∧ w'.cell? ⟨w.heap.size, 0, none⟩ = some .nilFunc) (go_keep)
    ((go_fit HM.out; rintro e w4 ⟨rfl, hk4, M, bf4, cM4, hM4⟩; have bff4 := hW3.out.2.1.drew.kept hk4 (by omega); have bE4 := hW3.out.2.2.1.drew.kept hk4 (by omega); have bL4 := BL.out.drew.kept hk4 (BL.out.ne hW3.out.1 (by decide)); have bR4 := BR.out.drew.kept hk4 (BR.out.ne hW3.out.1 (by decide)); have bx4 := BX.out.drew.kept hk4 (BX.out.ne hW3.out.1 (by decide)); have vf4 : w4.cell? ⟨w1.heap.size + 1, 0, none⟩ = some (.pointer (some ⟨w1.heap.size, 0, none⟩)) := bff4.cell 0 rfl; have l64 : w4.cell? ⟨L, 6, none⟩ = some (.slice (some ⟨R, 0, none⟩) 2 cap) := bL4.cell 6 rfl; have r04 : w4.cell? ⟨R, 0, none⟩ = some (.string ⟨#[109, 111, 100, 117, 108, 101]⟩) := bR4.cell 0 HC.out.1; have x04 : w4.cell? ⟨w.heap.size, 0, none⟩ = some .nilFunc := bx4.cell 0 rfl; have vE4 : w4.cell? ⟨w1.heap.size + 1 + 1, 0, none⟩ = some (.slice none 0 0) := bE4.cell 0 rfl; have bp4 := ((HB.out.2.1.kept (Kp.of_below (X := fun _ => False) hW3.out.2.2.2) (fun h => h)).drew).kept hk4 (by omega); have be4 := ((HB.out.2.2.1.kept (Kp.of_below (X := fun _ => False) hW3.out.2.2.2) (fun h => h)).drew).kept hk4 (by omega); have fp4 : ∀ j, w4.frozen? ⟨w.heap.size + 1, j, none⟩ = false := fun j => bp4.free j; have fe4 : ∀ j, w4.frozen? ⟨w.heap.size + 1 + 1, j, none⟩ = false := fun j => be4.free j; have ep4 : w4.cell? ⟨w.heap.size + 1, 0, none⟩ = some (.pointer none) := bp4.cell 0 rfl; have ee4 : w4.cell? ⟨w.heap.size + 1 + 1, 0, none⟩ = some .nilIface := be4.cell 0 rfl; have BFF4 := hide (And.intro bff4 (And.intro bE4 (And.intro bx4 (And.intro bp4 be4)))); have H4 := hide (And.intro hk4 (And.intro bf4 (And.intro cM4 hM4))); clear bp4 be4; clear hk4 bf4 cM4 hM4 bff4 bE4 bL4 bR4 bx4))
  go_wp2_with fail
  rw [rounds_succ]
  go_wp2_with fail
  have hW5 : ∀ Wx, Wx = (w4.setCell ⟨w.heap.size + 1, 0, none⟩ (.pointer (some ⟨w1.heap.size, 0, none⟩))).setCell ⟨w.heap.size + 1 + 1, 0, none⟩ .nilIface →
      Blk Wx (w.heap.size + 1) 64 #[.pointer (some ⟨w1.heap.size, 0, none⟩)] ∧ Blk Wx (w.heap.size + 1 + 1) 66 #[.nilIface] ∧ Blk Wx (w1.heap.size + 1 + 1) 121 #[Value.slice none 0 0] ∧ Blk Wx (w1.heap.size + 1) 64 #[Value.pointer (some ⟨w1.heap.size, 0, none⟩)] ∧
      Blk Wx w.heap.size 75 #[Value.nilFunc] ∧ Below w.heap.size w Wx ∧ Kp (fun k => k = w.heap.size + 1 ∨ k = w.heap.size + 1 + 1) w4 Wx := by
    rintro Wx rfl
    obtain ⟨bff4, bE4, bx4, bp4, be4⟩ := BFF4.out
    refine ⟨(bp4.set 0 _).set_other (by simp) _, (be4.set_other (by simp) _).set 0 _, (bE4.set_other (by simp; omega) _).set_other (by simp; omega) _, (bff4.set_other (by simp; omega) _).set_other (by simp; omega) _,
      (bx4.set_other (by simp) _).set_other (by simp; omega) _, ?_, ((Kp.refl _ w4).set (fun _ => Or.inl rfl)).set (fun _ => Or.inr rfl)⟩
    have k1 := (HB01.out.trans (hW3.out.2.2.2.mono HB01.out.size)).drew
    have k2 := H4.out.1.below (B := w.heap.size) k1.size (fun k e => by rw [e]; omega)
    exact ((k1.trans k2).setCell (by simp) _).setCell (by simp; omega) _
  have H5 := hide (hW5 _ rfl)
  clear hW5
  generalize (w4.setCell ⟨w.heap.size + 1, 0, none⟩ (.pointer (some ⟨w1.heap.size, 0, none⟩))).setCell ⟨w.heap.size + 1 + 1, 0, none⟩ .nilIface = W5 at H5 ⊢
  refine leaves_cons (f := 50) (args := #[.pointer (some ⟨w1.heap.size + 1 + 1, 0, none⟩), .pointer (some ⟨w1.heap.size + 1, 0, none⟩), .pointer (some ⟨w.heap.size, 0, none⟩), .pointer (some ⟨w.heap.size + 1, 0, none⟩), .pointer (some ⟨w.heap.size + 1 + 1, 0, none⟩)]) (by simp) (by simp [go_sem]) ?_
  refine (ptf_door (w1.heap.size + 1 + 1) (w1.heap.size + 1) w.heap.size (w.heap.size + 1) (w.heap.size + 1 + 1) w1.heap.size none 0 0 W5 (H5.out.2.2.1.cell 0 rfl) (H5.out.2.2.2.1.cell 0 rfl) (H5.out.2.2.2.2.1.cell 0 rfl)).mono ?_
  rintro e u' w6 ⟨rfl, rfl, hb6⟩
  have kp6 := Kp.of_below (X := fun _ => False) hb6
  have ep6 : w6.cell? ⟨w.heap.size + 1, 0, none⟩ = some (.pointer (some ⟨w1.heap.size, 0, none⟩)) := (H5.out.1.kept kp6 (fun h => h)).cell 0 rfl
  have ee6 : w6.cell? ⟨w.heap.size + 1 + 1, 0, none⟩ = some .nilIface := (H5.out.2.1.kept kp6 (fun h => h)).cell 0 rfl
  simp [Leaves, settle, results, Tryz.results46, go_sem, ep6, ee6]
  obtain ⟨hk4, bf4, cM4, hM4⟩ := H4.out
  have hne1 : ¬ (w1.heap.size = w.heap.size + 1 ∨ w1.heap.size = w.heap.size + 1 + 1) := by omega
  refine ⟨H5.out.2.2.2.2.2.1.trans (hb6.mono H5.out.2.2.2.2.2.1.size), ?_⟩
  refine ⟨F, M, ((bf4.kept H5.out.2.2.2.2.2.2 hne1).kept kp6 (fun h => h)).eq (by simp [fileCells, nilS]), ?_⟩
  have hMn : ¬ (M = w.heap.size + 1 ∨ M = w.heap.size + 1 + 1) := by
    rintro (e | e)
    · rw [e, ep4] at cM4; cases cM4
    · rw [e, ee4] at cM4; cases cM4
  have hM5 := H5.out.2.2.2.2.2.2.block M hM4 hMn
  have hM6 := hb6.block M (Nat.lt_of_lt_of_le hM4 H5.out.2.2.2.2.2.2.size)
  exact (World.cell?_of_block (w := w4) (a := ⟨M, 0, none⟩) (hM6.trans hM5)).trans cM4
end Go.Proofs.YtifkpibjeamfkaaGreatFmt
