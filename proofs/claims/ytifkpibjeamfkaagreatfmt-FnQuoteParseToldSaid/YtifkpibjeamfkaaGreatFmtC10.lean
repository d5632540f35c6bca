/- (*File).add at a require or exclude line whose version does not begin with v. -/
import Derived.Test.YtifkpibjeamfkaaGreatFmtC9
import Derived.Test.YtifkpibjeamfkaaGreatFmtC2
import Derived.Laws.EntriesVeiled
import Derived.Deep.DeepFit
set_option linter.unusedVariables false
namespace Go.Proofs.YtifkpibjeamfkaaGreatFmt
open Go.RowKit Go.Proofs

/-- The world in which add's body runs: its variables. -/
def addVars (w : World) (f E L : Nat) (verb : ByteArray) (av : Value) (t6 : TypeId) (fv : Value) : World :=
  (((((w.alloc (Obj.cells #[.pointer (some ⟨f, 0, none⟩)] 64)).alloc (Obj.cells #[.pointer (some ⟨E, 0, none⟩)] 123)).alloc (Obj.cells #[.pointer (some ⟨L, 0, none⟩)] 92)).alloc (Obj.cells #[.string verb] 9)).alloc (Obj.cells #[av] 26)).alloc (Obj.cells #[fv] t6)
structure AddW (w W : World) (f E L : Nat) (verb : ByteArray) (av : Value) (t6 : TypeId) (fv : Value) : Prop where
  b0 : Blk W w.heap.size 64 #[.pointer (some ⟨f, 0, none⟩)]
  b1 : Blk W (w.heap.size + 1) 123 #[.pointer (some ⟨E, 0, none⟩)]
  b2 : Blk W (w.heap.size + 1 + 1) 92 #[.pointer (some ⟨L, 0, none⟩)]
  b3 : Blk W (w.heap.size + 1 + 1 + 1) 9 #[.string verb]
  b4 : Blk W (w.heap.size + 1 + 1 + 1 + 1) 26 #[av]
  b5 : Blk W (w.heap.size + 1 + 1 + 1 + 1 + 1) t6 #[fv]
  below : Below w.heap.size w W
theorem Blk.new' (w : World) (t : TypeId) (cs : Array Value) (n : Nat) (h : w.heap.size = n) : Blk (w.alloc (.cells cs t)) n t cs := h ▸ Blk.new w t cs
theorem addW (w : World) (f E L : Nat) (verb : ByteArray) (av : Value) (t6 : TypeId) (fv : Value) : AddW w (addVars w f E L verb av t6 fv) f E L verb av t6 fv := by
  unfold addVars
  refine ⟨?_, ?_, ?_, ?_, ?_, ?_, ?_⟩
  · exact (((((Blk.new _ _ _).alloc _).alloc _).alloc _).alloc _).alloc _
  · exact ((((Blk.new' _ _ _ _ (by simp)).alloc _).alloc _).alloc _).alloc _
  · exact (((Blk.new' _ _ _ _ (by simp)).alloc _).alloc _).alloc _
  · exact ((Blk.new' _ _ _ _ (by simp)).alloc _).alloc _
  · exact (Blk.new' _ _ _ _ (by simp)).alloc _
  · exact Blk.new' _ _ _ _ (by simp)
  · exact ((((((Below.refl _ w).alloc (Nat.le_refl _) _).alloc (by simp) _).alloc (by simp; omega) _).alloc (by simp; omega) _).alloc (by simp; omega) _).alloc (by simp; omega) _
theorem AddW.below' {w W W' : World} {f E L : Nat} {verb : ByteArray} {av : Value} {t6 : TypeId} {fv : Value} (h : AddW w W f E L verb av t6 fv) (k : Below W.heap.size W W') : AddW w W' f E L verb av t6 fv := by
  have kp := Kp.of_below (X := fun _ => False) k
  exact ⟨h.b0.kept kp (fun h => h), h.b1.kept kp (fun h => h), h.b2.kept kp (fun h => h), h.b3.kept kp (fun h => h), h.b4.kept kp (fun h => h), h.b5.kept kp (fun h => h), h.below.trans (k.mono h.below.size)⟩

def reqB : ByteArray := ⟨#[114, 101, 113, 117, 105, 114, 101]⟩
def excB : ByteArray := ⟨#[101, 120, 99, 108, 117, 100, 101]⟩

set_option maxRecDepth 100000 in
set_option maxHeartbeats 4000000 in
theorem add_bad_req (R cap : Nat) (cur : Array Value) (path s : ByteArray) (n : Nat) (w : World) (f E F L : Nat) (nm : ByteArray) (a1 a2 a3 : Int) (fcs Fcs Lcs : Array Value)
    (hE : Blk w E 121 #[.slice none 0 0]) (hf : Blk w f 89 fcs) (hF : Blk w F 129 Fcs) (hL : Blk w L 136 Lcs)
    (hf10 : fcs[10]? = some (.pointer (some ⟨F, 0, none⟩))) (hF0 : Fcs[0]? = some (.string nm)) (hL3 : Lcs[3]? = some (.int .i64 a1)) (hL4 : Lcs[4]? = some (.int .i64 a2)) (hL5 : Lcs[5]? = some (.int .i64 a3))
    (hR : Blk w R 9 cur) (h0 : cur[1]? = some (.string path)) (h1 : cur[2]? = some (.string s)) (hp : Plain path) (hs : Plain s) (hn : s.size = n + 1) (hv : bt s 0 ≠ 118) (hpr : PrTab w) (hP : 0 < w.heap.size) :
    Calls Tryz.prog 52 #[.pointer (some ⟨f, 0, none⟩), .pointer (some ⟨E, 0, none⟩), .pointer none, .pointer (some ⟨L, 0, none⟩), .string ⟨#[114, 101, 113, 117, 105, 114, 101]⟩, .slice (some ⟨R, 1, none⟩) 2 cap, .nilFunc, .bool true] w fun e w' => e = .returned (.tuple #[]) ∧ Kp (fun k => k = E) w w' ∧ ∃ g cap, Blk w' E 121 #[.slice (some ⟨g, 0, none⟩) 1 cap] := by
  have hmf : ∀ (fn : Fn) (first cap : Array Value) (w : World), (Instr.makeFunc fn first cap).run Tryz.prog w = .ok (.func fn first cap) w := fun _ _ _ _ => rfl
  have HD := hide (And.intro hE (And.intro hf (And.intro hF (And.intro hL hR))))
  have HC := hide (And.intro hf10 (And.intro hF0 (And.intro hL3 (And.intro hL4 hL5))))
  have HP := hide hpr
  have H0 := hide h0
  have H1 := hide h1
  have n4 : E ≠ f := hE.ne hf (by decide)
  have n5 : E ≠ F := hE.ne hF (by decide)
  have n6 : E ≠ L := hE.ne hL (by decide)
  have hEl := hE.lt
  clear hE hf hF hL hR hf10 hF0 hL3 hL4 hL5 hpr h0 h1
  go_enter Tryz.func52, Tryz.ntmps52
  go_wp2_with fail
  have AW := addW w f E L ⟨#[114, 101, 113, 117, 105, 114, 101]⟩ (.slice (some ⟨R, 1, none⟩) 2 cap) 156 (.func (.func 65) #[] #[.pointer (some ⟨w.heap.size + 1, 0, none⟩), .pointer (some ⟨w.heap.size, 0, none⟩), .pointer (some ⟨w.heap.size + 1 + 1, 0, none⟩)])
  change Calls _ _ _ (addVars w f E L ⟨#[114, 101, 113, 117, 105, 114, 101]⟩ (.slice (some ⟨R, 1, none⟩) 2 cap) 156 (.func (.func 65) #[] #[.pointer (some ⟨w.heap.size + 1, 0, none⟩), .pointer (some ⟨w.heap.size, 0, none⟩), .pointer (some ⟨w.heap.size + 1 + 1, 0, none⟩)])) _
  generalize addVars w f E L ⟨#[114, 101, 113, 117, 105, 114, 101]⟩ (.slice (some ⟨R, 1, none⟩) 2 cap) 156 (.func (.func 65) #[] #[.pointer (some ⟨w.heap.size + 1, 0, none⟩), .pointer (some ⟨w.heap.size, 0, none⟩), .pointer (some ⟨w.heap.size + 1 + 1, 0, none⟩)]) = W at AW ⊢
  have AH := hide AW
  have kp0 := Kp.of_below (X := fun _ => False) AW.below
  have hPW : 0 < W.heap.size := Nat.lt_of_lt_of_le hP AW.below.size
  have hprW : PrTab W := HP.out.keptT (N := w.heap.size) (S := fun _ => True) ⟨AW.below, fun k cs t fz e hn => absurd True.intro hn⟩ hP
  have HPW := hide hprW
  clear hprW
  refine (parseString_plain R 1 cur path W (HD.out.2.2.2.2.kept kp0 (fun h => h)) H0.out hp.chars hp.first hp.len hp.mq HPW.out hPW).mono ?_
  rintro e w1 ⟨rfl, hb1⟩
  have A1 := AW.below' hb1
  have HA1 := hide A1
  have d3 : w1.cell? ⟨w.heap.size + 1 + 1 + 1, 0, none⟩ = some (.string ⟨#[114, 101, 113, 117, 105, 114, 101]⟩) := A1.b3.cell 0 rfl
  have d4 : w1.cell? ⟨w.heap.size + 1 + 1 + 1 + 1, 0, none⟩ = some (.slice (some ⟨R, 1, none⟩) 2 cap) := A1.b4.cell 0 rfl
  have hP1 : 0 < w1.heap.size := Nat.lt_of_lt_of_le hPW hb1.size
  have hpr1 : PrTab w1 := HPW.out.keptT (N := W.heap.size) (S := fun _ => True) ⟨hb1, fun k cs t fz e hn => absurd True.intro hn⟩ hPW
  have HP1 := hide hpr1
  have HR1 := hide (HD.out.2.2.2.2.kept (Kp.of_below (X := fun _ => False) A1.below) (fun h => h))
  clear kp0 hb1 A1 hpr1 AW AH
  go_wp2_with fail
  have HPV := hide (parseVersion_bad R 2 cur ⟨#[114, 101, 113, 117, 105, 114, 101]⟩ path s n w1.drew HR1.out.drew H1.out hs hn hv HP1.out hP1)
  go_region_held3 (fun w' => w'.cell? ⟨w.heap.size + 1 + 1 + 1, 0, none⟩ = some (.string ⟨#[114, 101, 113, 117, 105, 114, 101]⟩) ∧ w'.cell? ⟨w.heap.size + 1 + 1 + 1 + 1, 0, none⟩ = some (.slice (some ⟨R, 1, none⟩) 2 cap)) (go_keep)
    ((go_fit HPV.out; rintro e w2 ⟨⟨et, ev, rfl⟩, hb2⟩; have hb3 : Below w1.heap.size w1 w2 := ((Below.refl w1.heap.size w1).drew).trans hb2; have A2 := HA1.out.below' hb3; have g3 : w2.cell? ⟨w.heap.size + 1 + 1 + 1, 0, none⟩ = some (.string ⟨#[114, 101, 113, 117, 105, 114, 101]⟩) := A2.b3.cell 0 rfl; have g4 : w2.cell? ⟨w.heap.size + 1 + 1 + 1 + 1, 0, none⟩ = some (.slice (some ⟨R, 1, none⟩) 2 cap) := A2.b4.cell 0 rfl; have g5 : w2.cell? ⟨w.heap.size + 1 + 1 + 1 + 1 + 1, 0, none⟩ = some (.func (.func 65) #[] #[.pointer (some ⟨w.heap.size + 1, 0, none⟩), .pointer (some ⟨w.heap.size, 0, none⟩), .pointer (some ⟨w.heap.size + 1 + 1, 0, none⟩)]) := A2.b5.cell 0 rfl; have HA2 := hide A2; clear hb2 hb3 A2))
  all_goals go_wp2_with fail
  all_goals (obtain A2 := HA2.out)
  all_goals (have HAD := hide (show AddAt w2 (w.heap.size + 1) w.heap.size (w.heap.size + 1 + 1) E f F L nm a1 a2 a3 from ⟨A2.b1.cell 0 rfl, A2.b0.cell 0 rfl, A2.b2.cell 0 rfl, (HD.out.2.1.kept (Kp.of_below (X := fun _ => False) A2.below) (fun h => h)).cell 10 HC.out.1,
    (HD.out.2.2.1.kept (Kp.of_below (X := fun _ => False) A2.below) (fun h => h)).cell 0 HC.out.2.1, (HD.out.2.2.2.1.kept (Kp.of_below (X := fun _ => False) A2.below) (fun h => h)).cell 3 HC.out.2.2.1,
    (HD.out.2.2.2.1.kept (Kp.of_below (X := fun _ => False) A2.below) (fun h => h)).cell 4 HC.out.2.2.2.1, (HD.out.2.2.2.1.kept (Kp.of_below (X := fun _ => False) A2.below) (fun h => h)).cell 5 HC.out.2.2.2.2⟩))
  all_goals (have HE2 := hide (HD.out.1.kept (Kp.of_below (X := fun _ => False) A2.below) (fun h => h)))
  all_goals clear A2
  all_goals (go_fit (add2_any w2 (w.heap.size + 1) w.heap.size (w.heap.size + 1 + 1) E f F L nm a1 a2 a3 et ev HAD.out HE2.out (by omega) (by omega) (by omega) n4.symm n5.symm n6.symm); rintro e w3 ⟨rfl, hk3, hg3⟩)
  all_goals (have HK3 := hide hk3; have HG3 := hide hg3; clear hk3 hg3)
  all_goals go_wp2_with fail
  all_goals go_returns
  all_goals exact ⟨rfl, (Kp.of_below HA2.out.below).trans HK3.out, HG3.out⟩
set_option maxRecDepth 100000 in
set_option maxHeartbeats 4000000 in
theorem add_bad_exc (R cap : Nat) (cur : Array Value) (path s : ByteArray) (n : Nat) (w : World) (f E F L : Nat) (nm : ByteArray) (a1 a2 a3 : Int) (fcs Fcs Lcs : Array Value)
    (hE : Blk w E 121 #[.slice none 0 0]) (hf : Blk w f 89 fcs) (hF : Blk w F 129 Fcs) (hL : Blk w L 136 Lcs)
    (hf10 : fcs[10]? = some (.pointer (some ⟨F, 0, none⟩))) (hF0 : Fcs[0]? = some (.string nm)) (hL3 : Lcs[3]? = some (.int .i64 a1)) (hL4 : Lcs[4]? = some (.int .i64 a2)) (hL5 : Lcs[5]? = some (.int .i64 a3))
    (hR : Blk w R 9 cur) (h0 : cur[1]? = some (.string path)) (h1 : cur[2]? = some (.string s)) (hp : Plain path) (hs : Plain s) (hn : s.size = n + 1) (hv : bt s 0 ≠ 118) (hpr : PrTab w) (hP : 0 < w.heap.size) :
    Calls Tryz.prog 52 #[.pointer (some ⟨f, 0, none⟩), .pointer (some ⟨E, 0, none⟩), .pointer none, .pointer (some ⟨L, 0, none⟩), .string ⟨#[101, 120, 99, 108, 117, 100, 101]⟩, .slice (some ⟨R, 1, none⟩) 2 cap, .nilFunc, .bool true] w fun e w' => e = .returned (.tuple #[]) ∧ Kp (fun k => k = E) w w' ∧ ∃ g cap, Blk w' E 121 #[.slice (some ⟨g, 0, none⟩) 1 cap] := by
  have hmf : ∀ (fn : Fn) (first cap : Array Value) (w : World), (Instr.makeFunc fn first cap).run Tryz.prog w = .ok (.func fn first cap) w := fun _ _ _ _ => rfl
  have HD := hide (And.intro hE (And.intro hf (And.intro hF (And.intro hL hR))))
  have HC := hide (And.intro hf10 (And.intro hF0 (And.intro hL3 (And.intro hL4 hL5))))
  have HP := hide hpr
  have H0 := hide h0
  have H1 := hide h1
  have n4 : E ≠ f := hE.ne hf (by decide)
  have n5 : E ≠ F := hE.ne hF (by decide)
  have n6 : E ≠ L := hE.ne hL (by decide)
  have hEl := hE.lt
  clear hE hf hF hL hR hf10 hF0 hL3 hL4 hL5 hpr h0 h1
  go_enter Tryz.func52, Tryz.ntmps52
  go_wp2_with fail
  have AW := addW w f E L ⟨#[101, 120, 99, 108, 117, 100, 101]⟩ (.slice (some ⟨R, 1, none⟩) 2 cap) 156 (.func (.func 65) #[] #[.pointer (some ⟨w.heap.size + 1, 0, none⟩), .pointer (some ⟨w.heap.size, 0, none⟩), .pointer (some ⟨w.heap.size + 1 + 1, 0, none⟩)])
  change Calls _ _ _ (addVars w f E L ⟨#[101, 120, 99, 108, 117, 100, 101]⟩ (.slice (some ⟨R, 1, none⟩) 2 cap) 156 (.func (.func 65) #[] #[.pointer (some ⟨w.heap.size + 1, 0, none⟩), .pointer (some ⟨w.heap.size, 0, none⟩), .pointer (some ⟨w.heap.size + 1 + 1, 0, none⟩)])) _
  generalize addVars w f E L ⟨#[101, 120, 99, 108, 117, 100, 101]⟩ (.slice (some ⟨R, 1, none⟩) 2 cap) 156 (.func (.func 65) #[] #[.pointer (some ⟨w.heap.size + 1, 0, none⟩), .pointer (some ⟨w.heap.size, 0, none⟩), .pointer (some ⟨w.heap.size + 1 + 1, 0, none⟩)]) = W at AW ⊢
  have AH := hide AW
  have kp0 := Kp.of_below (X := fun _ => False) AW.below
  have hPW : 0 < W.heap.size := Nat.lt_of_lt_of_le hP AW.below.size
  have hprW : PrTab W := HP.out.keptT (N := w.heap.size) (S := fun _ => True) ⟨AW.below, fun k cs t fz e hn => absurd True.intro hn⟩ hP
  have HPW := hide hprW
  clear hprW
  refine (parseString_plain R 1 cur path W (HD.out.2.2.2.2.kept kp0 (fun h => h)) H0.out hp.chars hp.first hp.len hp.mq HPW.out hPW).mono ?_
  rintro e w1 ⟨rfl, hb1⟩
  have A1 := AW.below' hb1
  have HA1 := hide A1
  have d3 : w1.cell? ⟨w.heap.size + 1 + 1 + 1, 0, none⟩ = some (.string ⟨#[101, 120, 99, 108, 117, 100, 101]⟩) := A1.b3.cell 0 rfl
  have d4 : w1.cell? ⟨w.heap.size + 1 + 1 + 1 + 1, 0, none⟩ = some (.slice (some ⟨R, 1, none⟩) 2 cap) := A1.b4.cell 0 rfl
  have hP1 : 0 < w1.heap.size := Nat.lt_of_lt_of_le hPW hb1.size
  have hpr1 : PrTab w1 := HPW.out.keptT (N := W.heap.size) (S := fun _ => True) ⟨hb1, fun k cs t fz e hn => absurd True.intro hn⟩ hPW
  have HP1 := hide hpr1
  have HR1 := hide (HD.out.2.2.2.2.kept (Kp.of_below (X := fun _ => False) A1.below) (fun h => h))
  clear kp0 hb1 A1 hpr1 AW AH
  go_wp2_with fail
  have HPV := hide (parseVersion_bad R 2 cur ⟨#[101, 120, 99, 108, 117, 100, 101]⟩ path s n w1.drew HR1.out.drew H1.out hs hn hv HP1.out hP1)
  go_region_held3 (fun w' => w'.cell? ⟨w.heap.size + 1 + 1 + 1, 0, none⟩ = some (.string ⟨#[101, 120, 99, 108, 117, 100, 101]⟩) ∧ w'.cell? ⟨w.heap.size + 1 + 1 + 1 + 1, 0, none⟩ = some (.slice (some ⟨R, 1, none⟩) 2 cap)) (go_keep)
    ((go_fit HPV.out; rintro e w2 ⟨⟨et, ev, rfl⟩, hb2⟩; have hb3 : Below w1.heap.size w1 w2 := ((Below.refl w1.heap.size w1).drew).trans hb2; have A2 := HA1.out.below' hb3; have g3 : w2.cell? ⟨w.heap.size + 1 + 1 + 1, 0, none⟩ = some (.string ⟨#[101, 120, 99, 108, 117, 100, 101]⟩) := A2.b3.cell 0 rfl; have g4 : w2.cell? ⟨w.heap.size + 1 + 1 + 1 + 1, 0, none⟩ = some (.slice (some ⟨R, 1, none⟩) 2 cap) := A2.b4.cell 0 rfl; have g5 : w2.cell? ⟨w.heap.size + 1 + 1 + 1 + 1 + 1, 0, none⟩ = some (.func (.func 65) #[] #[.pointer (some ⟨w.heap.size + 1, 0, none⟩), .pointer (some ⟨w.heap.size, 0, none⟩), .pointer (some ⟨w.heap.size + 1 + 1, 0, none⟩)]) := A2.b5.cell 0 rfl; have HA2 := hide A2; clear hb2 hb3 A2))
  all_goals go_wp2_with fail
  all_goals (obtain A2 := HA2.out)
  all_goals (have HAD := hide (show AddAt w2 (w.heap.size + 1) w.heap.size (w.heap.size + 1 + 1) E f F L nm a1 a2 a3 from ⟨A2.b1.cell 0 rfl, A2.b0.cell 0 rfl, A2.b2.cell 0 rfl, (HD.out.2.1.kept (Kp.of_below (X := fun _ => False) A2.below) (fun h => h)).cell 10 HC.out.1,
    (HD.out.2.2.1.kept (Kp.of_below (X := fun _ => False) A2.below) (fun h => h)).cell 0 HC.out.2.1, (HD.out.2.2.2.1.kept (Kp.of_below (X := fun _ => False) A2.below) (fun h => h)).cell 3 HC.out.2.2.1,
    (HD.out.2.2.2.1.kept (Kp.of_below (X := fun _ => False) A2.below) (fun h => h)).cell 4 HC.out.2.2.2.1, (HD.out.2.2.2.1.kept (Kp.of_below (X := fun _ => False) A2.below) (fun h => h)).cell 5 HC.out.2.2.2.2⟩))
  all_goals (have HE2 := hide (HD.out.1.kept (Kp.of_below (X := fun _ => False) A2.below) (fun h => h)))
  all_goals clear A2
  all_goals (go_fit (add2_any w2 (w.heap.size + 1) w.heap.size (w.heap.size + 1 + 1) E f F L nm a1 a2 a3 et ev HAD.out HE2.out (by omega) (by omega) (by omega) n4.symm n5.symm n6.symm); rintro e w3 ⟨rfl, hk3, hg3⟩)
  all_goals (have HK3 := hide hk3; have HG3 := hide hg3; clear hk3 hg3)
  all_goals go_wp2_with fail
  all_goals go_returns
  all_goals exact ⟨rfl, (Kp.of_below HA2.out.below).trans HK3.out, HG3.out⟩
end Go.Proofs.YtifkpibjeamfkaaGreatFmt
