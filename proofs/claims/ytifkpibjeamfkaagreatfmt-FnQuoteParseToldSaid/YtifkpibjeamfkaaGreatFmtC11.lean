/- (*File).add at a module line. -/
import Derived.Test.YtifkpibjeamfkaaGreatFmtC10
set_option linter.unusedVariables false
namespace Go.Proofs.YtifkpibjeamfkaaGreatFmt
open Go.RowKit Go.Proofs

/-- What parseString gives at the cell (R, i): the text s; nothing that was there turns. -/
def Reads1 (R i : Nat) (cur : Array Value) (s : ByteArray) : Prop := ∀ W : World, Blk W R 9 cur → PrTab W → 0 < W.heap.size →
  Calls Tryz.prog 71 #[.pointer (some ⟨R, i, none⟩)] W fun e w' => e = .returned (.tuple #[.string s, .nilIface]) ∧ Below W.heap.size W w'
theorem Reads1.plain {R i : Nat} {cur : Array Value} {s : ByteArray} (hp : Plain s) (hi : cur[i]? = some (.string s)) : Reads1 R i cur s :=
  fun W hR hpr hP => parseString_plain R i cur s W hR hi hp.chars hp.first hp.len hp.mq hpr hP

set_option maxRecDepth 100000 in
set_option maxHeartbeats 4000000 in
theorem add_module (R cap : Nat) (cur : Array Value) (s : ByteArray) (w : World) (f E L : Nat) (fcs Lcs : Array Value)
    (hf : Blk w f 89 fcs) (hL : Blk w L 136 Lcs) (hR : Blk w R 9 cur) (hf0 : fcs[0]? = some (.pointer none)) (hL0 : Lcs[0]? = some (.slice none 0 0)) (hL1 : Lcs[1]? = some (.slice none 0 0))
    (hps : Reads1 R 1 cur s) (hpr : PrTab w) (hP : 0 < w.heap.size) :
    Calls Tryz.prog 52 #[.pointer (some ⟨f, 0, none⟩), .pointer (some ⟨E, 0, none⟩), .pointer none, .pointer (some ⟨L, 0, none⟩), .string ⟨#[109, 111, 100, 117, 108, 101]⟩, .slice (some ⟨R, 1, none⟩) 1 cap, .nilFunc, .bool true] w
      fun e w' => e = .returned (.tuple #[]) ∧ Kp (fun k => k = f) w w' ∧ ∃ M, Blk w' f 89 (fcs.setIfInBounds 0 (.pointer (some ⟨M, 0, none⟩))) ∧ w'.cell? ⟨M, 0, none⟩ = some (.string s) ∧ M < w'.heap.size := by
  have hmf : ∀ (fn : Fn) (first cap : Array Value) (w : World), (Instr.makeFunc fn first cap).run Tryz.prog w = .ok (.func fn first cap) w := fun _ _ _ _ => rfl
  have HD := hide (And.intro hf (And.intro hL hR))
  have HC := hide (And.intro hf0 (And.intro hL0 hL1))
  have HP := hide hpr
  have HS := hide hps
  have c0 : w.cell? ⟨f, 0, none⟩ = some (.pointer none) := hf.cell 0 hf0
  have hfl := hf.lt
  have hLl := hL.lt
  have m1 : f < w.heap.size + 1 := by omega
  have m2 : f < w.heap.size + 1 + 1 := by omega
  have m3 : f < w.heap.size + 1 + 1 + 1 := by omega
  have m4 : f < w.heap.size + 1 + 1 + 1 + 1 := by omega
  have m5 : f < w.heap.size + 1 + 1 + 1 + 1 + 1 := by omega
  clear hf hL hR hf0 hL0 hL1 hpr hps
  go_enter Tryz.func52, Tryz.ntmps52
  go_wp2_with fail
  have AW := addW w f E L ⟨#[109, 111, 100, 117, 108, 101]⟩ (.slice (some ⟨R, 1, none⟩) 1 cap) 156 (.func (.func 65) #[] #[.pointer (some ⟨w.heap.size + 1, 0, none⟩), .pointer (some ⟨w.heap.size, 0, none⟩), .pointer (some ⟨w.heap.size + 1 + 1, 0, none⟩)])
  change Calls _ _ _ (addVars w f E L ⟨#[109, 111, 100, 117, 108, 101]⟩ (.slice (some ⟨R, 1, none⟩) 1 cap) 156 (.func (.func 65) #[] #[.pointer (some ⟨w.heap.size + 1, 0, none⟩), .pointer (some ⟨w.heap.size, 0, none⟩), .pointer (some ⟨w.heap.size + 1 + 1, 0, none⟩)])) _
  generalize addVars w f E L ⟨#[109, 111, 100, 117, 108, 101]⟩ (.slice (some ⟨R, 1, none⟩) 1 cap) 156 (.func (.func 65) #[] #[.pointer (some ⟨w.heap.size + 1, 0, none⟩), .pointer (some ⟨w.heap.size, 0, none⟩), .pointer (some ⟨w.heap.size + 1 + 1, 0, none⟩)]) = W at AW ⊢
  have hLW := HD.out.2.1.kept (Kp.of_below (X := fun _ => False) AW.below) (fun h => h)
  go_fit (deprecation_none L W (hLW.cell 0 HC.out.2.1) (hLW.cell 1 HC.out.2.2))
  rintro e w1 ⟨rfl, hb1⟩
  have A1 := AW.below' hb1
  have HA1 := hide A1
  have hf1 := HD.out.1.kept (Kp.of_below (X := fun _ => False) A1.below) (fun h => h)
  have HF1 := hide hf1
  have d0 : w1.cell? ⟨w.heap.size, 0, none⟩ = some (.pointer (some ⟨f, 0, none⟩)) := A1.b0.cell 0 rfl
  have d2 : w1.cell? ⟨w.heap.size + 1 + 1, 0, none⟩ = some (.pointer (some ⟨L, 0, none⟩)) := A1.b2.cell 0 rfl
  have d4 : w1.cell? ⟨w.heap.size + 1 + 1 + 1 + 1, 0, none⟩ = some (.slice (some ⟨R, 1, none⟩) 1 cap) := A1.b4.cell 0 rfl
  have f0 : w1.cell? ⟨f, 0, none⟩ = some (.pointer none) := hf1.cell 0 HC.out.1
  have ff : w1.frozen? ⟨f, 0, none⟩ = false := hf1.free 0
  have g4 : w.heap.size + 1 + 1 + 1 + 1 + 1 < w1.heap.size := A1.b5.lt
  have l0 : w.heap.size < w1.heap.size := by omega
  have l2 : w.heap.size + 1 + 1 < w1.heap.size := by omega
  have l4 : w.heap.size + 1 + 1 + 1 + 1 < w1.heap.size := by omega
  have lf : f < w1.heap.size := hf1.lt
  have n0 : w.heap.size ≠ f := by omega
  have n2 : w.heap.size + 1 + 1 ≠ f := by omega
  have n4 : w.heap.size + 1 + 1 + 1 + 1 ≠ f := by omega
  clear A1 hf1 hb1 AW hLW
  go_wp2_with fail
  have hW2 : Hid (Blk ((w1.setCell ⟨f, 0, none⟩ (.pointer (some ⟨w1.heap.size, 0, none⟩))).alloc (Obj.cells #[Value.string ⟨#[]⟩, Value.string ⟨#[]⟩, Value.string ⟨#[]⟩, Value.pointer (some ⟨L, 0, none⟩)] 94)) w1.heap.size 94 #[Value.string ⟨#[]⟩, Value.string ⟨#[]⟩, Value.string ⟨#[]⟩, Value.pointer (some ⟨L, 0, none⟩)] ∧
      Blk ((w1.setCell ⟨f, 0, none⟩ (.pointer (some ⟨w1.heap.size, 0, none⟩))).alloc (Obj.cells #[Value.string ⟨#[]⟩, Value.string ⟨#[]⟩, Value.string ⟨#[]⟩, Value.pointer (some ⟨L, 0, none⟩)] 94)) f 89 (fcs.setIfInBounds 0 (.pointer (some ⟨w1.heap.size, 0, none⟩))) ∧
      Blk ((w1.setCell ⟨f, 0, none⟩ (.pointer (some ⟨w1.heap.size, 0, none⟩))).alloc (Obj.cells #[Value.string ⟨#[]⟩, Value.string ⟨#[]⟩, Value.string ⟨#[]⟩, Value.pointer (some ⟨L, 0, none⟩)] 94)) w.heap.size 64 #[.pointer (some ⟨f, 0, none⟩)] ∧
      Kp (fun k => k = f) w ((w1.setCell ⟨f, 0, none⟩ (.pointer (some ⟨w1.heap.size, 0, none⟩))).alloc (Obj.cells #[Value.string ⟨#[]⟩, Value.string ⟨#[]⟩, Value.string ⟨#[]⟩, Value.pointer (some ⟨L, 0, none⟩)] 94))) :=
    hide ⟨Blk.new' _ _ _ _ (by simp [World.setCell]), (HF1.out.set 0 _).alloc _, (HA1.out.b0.set_other n0 _).alloc _, ((Kp.of_below (X := fun k => k = f) HA1.out.below).set (fun _ => rfl)).alloc _⟩
  have hsz2 : ((w1.setCell ⟨f, 0, none⟩ (.pointer (some ⟨w1.heap.size, 0, none⟩))).alloc (Obj.cells #[Value.string ⟨#[]⟩, Value.string ⟨#[]⟩, Value.string ⟨#[]⟩, Value.pointer (some ⟨L, 0, none⟩)] 94)).heap.size = w1.heap.size + 1 := by simp [World.setCell]
  have HZ := hide hsz2
  clear hsz2
  generalize (w1.setCell ⟨f, 0, none⟩ (.pointer (some ⟨w1.heap.size, 0, none⟩))).alloc (Obj.cells #[Value.string ⟨#[]⟩, Value.string ⟨#[]⟩, Value.string ⟨#[]⟩, Value.pointer (some ⟨L, 0, none⟩)] 94) = W2 at hW2 HZ ⊢
  have hRf : R ≠ f := HD.out.2.2.ne HD.out.1 (by decide)
  have hPf : ¬ 0 = f := by
    intro e
    obtain ⟨v, hv, _⟩ := HP.out 0 (by omega)
    rw [show (⟨0, 0, none⟩ : Addr) = ⟨f, 0, none⟩ from by rw [← e], c0] at hv
    cases hv
  go_fit (HS.out W2 (HD.out.2.2.kept hW2.out.2.2.2 hRf) (HP.out.kept hW2.out.2.2.2 hPf) (Nat.lt_of_lt_of_le hP hW2.out.2.2.2.size))
  rintro e w3 ⟨rfl, hb3⟩
  have bM := hW2.out.1.kept (Kp.of_below (X := fun _ => False) hb3) (fun h => h)
  have bF := hW2.out.2.1.kept (Kp.of_below (X := fun _ => False) hb3) (fun h => h)
  have b0 := hW2.out.2.2.1.kept (Kp.of_below (X := fun _ => False) hb3) (fun h => h)
  have k3 := hide (hW2.out.2.2.2.trans (Kp.of_below hb3))
  have hfsz : 0 < fcs.size := by
    have h := HC.out.1
    rcases Nat.eq_zero_or_pos fcs.size with h0 | h0
    · rw [Array.getElem?_eq_none (by omega)] at h; cases h
    · exact h0
  have e0 : w3.cell? ⟨w.heap.size, 0, none⟩ = some (.pointer (some ⟨f, 0, none⟩)) := b0.cell 0 rfl
  have ef : w3.cell? ⟨f, 0, none⟩ = some (.pointer (some ⟨w1.heap.size, 0, none⟩)) := bF.cell 0 (by simp [hfsz])
  have fM : ∀ j, w3.frozen? ⟨w1.heap.size, j, none⟩ = false := fun j => bM.free j
  have eM0 : w3.cell? ⟨w1.heap.size, 0, none⟩ = some (.string ⟨#[]⟩) := bM.cell 0 rfl
  have eM1 : w3.cell? ⟨w1.heap.size, 1, none⟩ = some (.string ⟨#[]⟩) := bM.cell 1 rfl
  have BM := hide bM
  have BF := hide bF
  clear bM bF b0 hb3 d0 d2 d4 f0 ff
  go_wp2_with fail
  go_returns
  have nfM : f ≠ w1.heap.size := by omega
  exact ⟨rfl, ((k3.out).set (fun h => absurd h (by omega))).set (fun h => absurd h (by omega)), w1.heap.size, (BF.out.set_other nfM _).set_other nfM _, ((BM.out.set 0 _).set 1 _).cell 0 rfl, ((BM.out.set 0 _).set 1 _).lt⟩
end Go.Proofs.YtifkpibjeamfkaaGreatFmt
