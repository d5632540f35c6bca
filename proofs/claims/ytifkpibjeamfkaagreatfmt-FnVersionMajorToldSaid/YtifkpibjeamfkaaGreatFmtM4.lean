/- (*File).add at a require line whose version's major number is not in its path. -/
import Derived.Test.YtifkpibjeamfkaaGreatFmtM3
import Derived.Test.YtifkpibjeamfkaaGreatFmtC13
set_option linter.unusedVariables false
namespace Go.Proofs.YtifkpibjeamfkaaGreatFmt
open Go.RowKit Go.Proofs
open Go.Extern.Stop Go.Stop Go.Extern

set_option maxRecDepth 100000 in
set_option maxHeartbeats 4000000 in
theorem add_major_req (Fi : Interp) (R cap : Nat) (cur : Array Value) (path s : ByteArray) (n : Nat) (w : World) (f E F L : Nat) (nm : ByteArray) (a1 a2 a3 : Int) (fcs Fcs Lcs : Array Value)
    (hE : Blk w E 121 #[.slice none 0 0]) (hf : Blk w f 89 fcs) (hF : Blk w F 129 Fcs) (hL : Blk w L 136 Lcs)
    (hf10 : fcs[10]? = some (.pointer (some ⟨F, 0, none⟩))) (hF0 : Fcs[0]? = some (.string nm)) (hL3 : Lcs[3]? = some (.int .i64 a1)) (hL4 : Lcs[4]? = some (.int .i64 a2)) (hL5 : Lcs[5]? = some (.int .i64 a3))
    (hR : Blk w R 9 cur) (h0 : cur[1]? = some (.string path)) (h1 : cur[2]? = some (.string s)) (hp : Plain path) (hs : Plain s) (hn : path.size = n + 1) (hl : path.size ≤ 1000000) (hc : 97 ≤ bt path n ∧ bt path n ≤ 122) (hg : Lib.hasPrefix path.data.toList gopkg.data.toList = false)
    (v1 v2 v3 v4 v5 D z1 z2 : ByteArray) (hv : Ver3 s v1 v2 v3 v4 v5 D z1 z2) (hD : D.size ≤ 1000000) (hle : 1 + D.size ≤ s.size) (hFi : Fi.answers w.tape)
    (hpre : Lib.hasPrefix s.data.toList [118, 48, 46, 48, 46, 48, 45] = false) (m0 : ((s.extract 0 (1 + D.size)).toList == [118, 48]) = false) (m1 : ((s.extract 0 (1 + D.size)).toList == [118, 49]) = false) (hpr : PrTab w) (hP : 0 < w.heap.size) :
    Calls Tryz.prog 52 #[.pointer (some ⟨f, 0, none⟩), .pointer (some ⟨E, 0, none⟩), .pointer none, .pointer (some ⟨L, 0, none⟩), .string ⟨#[114, 101, 113, 117, 105, 114, 101]⟩, .slice (some ⟨R, 1, none⟩) 2 cap, .nilFunc, .bool true] w fun e w' => e = .returned (.tuple #[]) ∧ Kp (fun k => k = E) w w' ∧ ∃ g cap, Blk w' E 121 #[.slice (some ⟨g, 0, none⟩) 1 cap] := by
  have HMP := hide (fun W => pathMajor_plain path n W hn hl hc hg)
  have HCP := hide (fun W (h : Fi.answers W.tape) => checkPathMajor_bad Fi s v1 v2 v3 v4 v5 D z1 z2 W hv hD hle h hpre m0 m1)
  have HFI := hide hFi
  clear hpre m0 m1 hFi hn hc hg hle
  have hmf : ∀ (fn : Fn) (first cap : Array Value) (w : World), (Instr.makeFunc fn first cap).run Tryz.prog w = .ok (.func fn first cap) w := fun _ _ _ _ => rfl
  have HD := hide (And.intro hE (And.intro hf (And.intro hF (And.intro hL hR))))
  have HC := hide (And.intro hf10 (And.intro hF0 (And.intro hL3 (And.intro hL4 hL5))))
  have HP := hide hpr
  have H0 := hide h0
  have H1 := hide h1
  have n4 : E ≠ f := hE.ne hf (by decide)
  have n5 : E ≠ F := hE.ne hF (by decide)
  have n6 : E ≠ L := hE.ne hL (by decide)
  have hEl := hE.lt
  clear hE hf hF hL hR hf10 hF0 hL3 hL4 hL5 hpr h0 h1
  go_enter Tryz.func52, Tryz.ntmps52
  go_wp2_with fail
  have AW := addW w f E L ⟨#[114, 101, 113, 117, 105, 114, 101]⟩ (.slice (some ⟨R, 1, none⟩) 2 cap) 156 (.func (.func 65) #[] #[.pointer (some ⟨w.heap.size + 1, 0, none⟩), .pointer (some ⟨w.heap.size, 0, none⟩), .pointer (some ⟨w.heap.size + 1 + 1, 0, none⟩)])
  change Calls _ _ _ (addVars w f E L ⟨#[114, 101, 113, 117, 105, 114, 101]⟩ (.slice (some ⟨R, 1, none⟩) 2 cap) 156 (.func (.func 65) #[] #[.pointer (some ⟨w.heap.size + 1, 0, none⟩), .pointer (some ⟨w.heap.size, 0, none⟩), .pointer (some ⟨w.heap.size + 1 + 1, 0, none⟩)])) _
  generalize addVars w f E L ⟨#[114, 101, 113, 117, 105, 114, 101]⟩ (.slice (some ⟨R, 1, none⟩) 2 cap) 156 (.func (.func 65) #[] #[.pointer (some ⟨w.heap.size + 1, 0, none⟩), .pointer (some ⟨w.heap.size, 0, none⟩), .pointer (some ⟨w.heap.size + 1 + 1, 0, none⟩)]) = W at AW ⊢
  have AH := hide AW
  have kp0 := Kp.of_below (X := fun _ => False) AW.below
  have hPW : 0 < W.heap.size := Nat.lt_of_lt_of_le hP AW.below.size
  have hprW : PrTab W := HP.out.keptT (N := w.heap.size) (S := fun _ => True) ⟨AW.below, fun k cs t fz e hn => absurd True.intro hn⟩ hP
  have HPW := hide hprW
  clear hprW
  refine (parseString_plain R 1 cur path W (HD.out.2.2.2.2.kept kp0 (fun h => h)) H0.out hp.chars hp.first hp.len hp.mq HPW.out hPW).mono ?_
  rintro e w1 ⟨rfl, hb1⟩
  have A1 := AW.below' hb1
  have HA1 := hide A1
  have d3 : w1.cell? ⟨w.heap.size + 1 + 1 + 1, 0, none⟩ = some (.string ⟨#[114, 101, 113, 117, 105, 114, 101]⟩) := A1.b3.cell 0 rfl
  have d4 : w1.cell? ⟨w.heap.size + 1 + 1 + 1 + 1, 0, none⟩ = some (.slice (some ⟨R, 1, none⟩) 2 cap) := A1.b4.cell 0 rfl
  have hP1 : 0 < w1.heap.size := Nat.lt_of_lt_of_le hPW hb1.size
  have hpr1 : PrTab w1 := HPW.out.keptT (N := W.heap.size) (S := fun _ => True) ⟨hb1, fun k cs t fz e hn => absurd True.intro hn⟩ hPW
  have HP1 := hide hpr1
  have HR1 := hide (HD.out.2.2.2.2.kept (Kp.of_below (X := fun _ => False) A1.below) (fun h => h))
  clear kp0 hb1 A1 hpr1 AW AH
  go_wp2_with fail
  have HPV := hide (parseVersion_good R 2 cur ⟨#[114, 101, 113, 117, 105, 114, 101]⟩ path s v1 v2 v3 v4 v5 D z1 z2 w1.drew HR1.out.drew H1.out hs hv HP1.out hP1)
  go_region_held3 (fun w' => w'.cell? ⟨w.heap.size + 1 + 1 + 1, 0, none⟩ = some (.string ⟨#[114, 101, 113, 117, 105, 114, 101]⟩) ∧ w'.cell? ⟨w.heap.size + 1 + 1 + 1 + 1, 0, none⟩ = some (.slice (some ⟨R, 1, none⟩) 2 cap)) (go_keep)
    ((go_fit HPV.out; rintro e w2 ⟨rfl, hb2⟩; have hb3 : Below w1.heap.size w1 w2 := ((Below.refl w1.heap.size w1).drew).trans hb2; have A2 := HA1.out.below' hb3; have g3 : w2.cell? ⟨w.heap.size + 1 + 1 + 1, 0, none⟩ = some (.string ⟨#[114, 101, 113, 117, 105, 114, 101]⟩) := A2.b3.cell 0 rfl; have g4 : w2.cell? ⟨w.heap.size + 1 + 1 + 1 + 1, 0, none⟩ = some (.slice (some ⟨R, 1, none⟩) 2 cap) := A2.b4.cell 0 rfl; have g5 : w2.cell? ⟨w.heap.size + 1 + 1 + 1 + 1 + 1, 0, none⟩ = some (.func (.func 65) #[] #[.pointer (some ⟨w.heap.size + 1, 0, none⟩), .pointer (some ⟨w.heap.size, 0, none⟩), .pointer (some ⟨w.heap.size + 1 + 1, 0, none⟩)]) := A2.b5.cell 0 rfl; have HA2 := hide A2; clear hb2 hb3 A2))
  all_goals go_wp2_with fail
  all_goals (go_fit (HMP.out w2); rintro e w3 ⟨rfl, rfl⟩)
  all_goals go_wp2_with fail
  all_goals (go_fit (HCP.out w3 (by rw [HA2.out.below.tape]; exact HFI.out)); rintro e w4 ⟨⟨et, ev, rfl⟩, hb4⟩)
  all_goals (have HA4 := hide (HA2.out.below' hb4))
  all_goals clear hb4
  all_goals go_wp2_with fail
  all_goals (obtain A2 := HA4.out)
  all_goals (have HAD := hide (show AddAt w4 (w.heap.size + 1) w.heap.size (w.heap.size + 1 + 1) E f F L nm a1 a2 a3 from ⟨A2.b1.cell 0 rfl, A2.b0.cell 0 rfl, A2.b2.cell 0 rfl, (HD.out.2.1.kept (Kp.of_below (X := fun _ => False) A2.below) (fun h => h)).cell 10 HC.out.1,
    (HD.out.2.2.1.kept (Kp.of_below (X := fun _ => False) A2.below) (fun h => h)).cell 0 HC.out.2.1, (HD.out.2.2.2.1.kept (Kp.of_below (X := fun _ => False) A2.below) (fun h => h)).cell 3 HC.out.2.2.1,
    (HD.out.2.2.2.1.kept (Kp.of_below (X := fun _ => False) A2.below) (fun h => h)).cell 4 HC.out.2.2.2.1, (HD.out.2.2.2.1.kept (Kp.of_below (X := fun _ => False) A2.below) (fun h => h)).cell 5 HC.out.2.2.2.2⟩))
  all_goals (have HE2 := hide (HD.out.1.kept (Kp.of_below (X := fun _ => False) A2.below) (fun h => h)))
  all_goals (have HVB := hide (A2.b3.cell 0 rfl : w4.cell? ⟨w.heap.size + 1 + 1 + 1, 0, none⟩ = some (.string ⟨#[114, 101, 113, 117, 105, 114, 101]⟩)))
  all_goals clear A2
  all_goals (go_fit (add1_any w4 (w.heap.size + 1) w.heap.size (w.heap.size + 1 + 1) (w.heap.size + 1 + 1 + 1) E f F L ⟨#[114, 101, 113, 117, 105, 114, 101]⟩ path nm a1 a2 a3 et ev HAD.out HE2.out (by omega) (by omega) (by omega) n4.symm n5.symm n6.symm HVB.out (by omega)); rintro e w5 ⟨rfl, hk3, hg3⟩)
  all_goals (have HK3 := hide hk3; have HG3 := hide hg3; clear hk3 hg3)
  all_goals go_wp2_with fail
  all_goals go_returns
  all_goals exact ⟨rfl, (Kp.of_below HA4.out.below).trans HK3.out, HG3.out⟩

theorem BadAdd.major (Fi : Interp) (w0 : World) (path s : ByteArray) (n : Nat) (hFi : Fi.answers w0.tape) (hp : Plain path) (hs : Plain s) (hn : path.size = n + 1) (hl : path.size ≤ 1000000) (hc : 97 ≤ bt path n ∧ bt path n ≤ 122) (hg : Lib.hasPrefix path.data.toList gopkg.data.toList = false)
    (v1 v2 v3 v4 v5 D z1 z2 : ByteArray) (hv : Ver3 s v1 v2 v3 v4 v5 D z1 z2) (hD : D.size ≤ 1000000) (hle : 1 + D.size ≤ s.size)
    (hpre : Lib.hasPrefix s.data.toList [118, 48, 46, 48, 46, 48, 45] = false) (m0 : ((s.extract 0 (1 + D.size)).toList == [118, 48]) = false) (m1 : ((s.extract 0 (1 + D.size)).toList == [118, 49]) = false) : BadAdd w0 reqB path s := by
  intro R cap cur w f E F L nm a1 a2 a3 fcs Fcs Lcs hE hf hF hL hf10 hF0 hL3 hL4 hL5 hR h0 h1 hpr hP ht
  exact add_major_req Fi R cap cur path s n w f E F L nm a1 a2 a3 fcs Fcs Lcs hE hf hF hL hf10 hF0 hL3 hL4 hL5 hR h0 h1 hp hs hn hl hc hg v1 v2 v3 v4 v5 D z1 z2 hv hD hle (by rw [ht]; exact hFi) hpre m0 m1 hpr hP
end Go.Proofs.YtifkpibjeamfkaaGreatFmt
