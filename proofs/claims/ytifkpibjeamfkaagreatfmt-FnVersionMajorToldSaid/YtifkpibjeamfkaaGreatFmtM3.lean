/- parseVersion at a canonical version; fmt.Errorf at CheckPathMajor's format; CheckPathMajor at a path without a major number. -/
import Derived.Test.YtifkpibjeamfkaaGreatFmtM2
import Derived.Test.YtifkpibjeamfkaaGreatFmtC9
import Derived.Stop.CallBack
import Derived.Stop.IfaceNil
import Derived.Stop.FmtTextLaws
import GoSem.ClaimData
set_option linter.unusedVariables false
namespace Go.Proofs.YtifkpibjeamfkaaGreatFmt
open Go.RowKit Go.Proofs
open Go.Extern.Stop Go.Stop Go.Extern

set_option maxRecDepth 100000 in
set_option maxHeartbeats 1000000 in
theorem parseVersion_good (R i : Nat) (cur : Array Value) (verb path s v1 v2 v3 v4 v5 D z1 z2 : ByteArray) (w : World) (hR : Blk w R 9 cur) (hi : cur[i]? = some (.string s)) (hp : Plain s) (h : Ver3 s v1 v2 v3 v4 v5 D z1 z2) (hpr : PrTab w) (hP : 0 < w.heap.size) :
    Calls Tryz.prog 74 #[.string verb, .string path, .pointer (some ⟨R, i, none⟩), .nilFunc] w fun e w' => e = .returned (.tuple #[.string s, .nilIface]) ∧ Below w.heap.size w w' := by
  have hq : ∀ (w : World), (binOp .neq 75 .nilFunc .nilFunc).run Tryz.prog w = .ok (.bool false) w := fun w => by kernel_rfl
  have he : s.toList.isEmpty = false := full_of_size (n := s.size - 1) (by have := h.hpos; omega)
  have HR := hide hR
  have HI := hide hi
  have HC := hide (parseString_plain R i cur s w hR hi hp.chars hp.first hp.len hp.mq hpr hP)
  clear hR hi hpr
  go_enter Tryz.func74, Tryz.ntmps74
  go_wp2_with fail
  refine HC.out.mono ?_
  rintro e w1 ⟨rfl, hb⟩
  have HB := hide hb
  clear hb
  go_wp2_with fail
  refine (canonicalVersion_good s v1 v2 v3 v4 v5 D z1 z2 w1 h).mono ?_
  rintro e w2 ⟨rfl, hb2⟩
  have hb2' := HB.out.trans (hb2.mono HB.out.size)
  have bR := HR.out.kept (Kp.of_below (X := fun _ => False) hb2') (fun h => h)
  have c3 : w2.cell? ⟨R, i, none⟩ = some (.string s) := bR.cell i HI.out
  have f3 : w2.frozen? ⟨R, i, none⟩ = false := bR.free i
  have s3 : w2.setCell ⟨R, i, none⟩ (.string s) = w2 := bR.set_id HI.out
  have HB2 := hide hb2'
  clear hb2 hb2' bR
  go_wp2_with fail
  go_returns
  exact ⟨rfl, HB2.out⟩

-- fmt.errorf: a plain stop
@[go_sem] theorem Tryz.callErrorf (args : Array Value) (w : World) : (callFunc 144 args).run Tryz.prog w = ((FmtStop.errorf #[9, 161] #[66] args).run Tryz.prog w).andThen fun v w' => .ok (.value v) w' :=
  run_callFunc_extern Tryz.func144 (by kernel_rfl) (by kernel_rfl) (by kernel_rfl) (by kernel_rfl) args w
@[go_sem] theorem Tryz.guardStop (name : String) (w : World) : (FmtStop.guard name).run Tryz.prog w = .ok () w := by kernel_rfl
def fmtShould : ByteArray := ⟨#[115, 104, 111, 117, 108, 100, 32, 98, 101, 32, 37, 115, 44, 32, 110, 111, 116, 32, 37, 115]⟩
@[go_sem] theorem Tryz.fmt0 : FmtStop.printed? ⟨#[115, 104, 111, 117, 108, 100, 32, 98, 101, 32, 37, 115, 44, 32, 110, 111, 116, 32, 37, 115]⟩ 2 = some [(0, 115, false), (1, 115, false)] := by kernel_rfl
@[go_sem] theorem Tryz.fmt0r (w : World) : (FmtDoors.printed ⟨#[115, 104, 111, 117, 108, 100, 32, 98, 101, 32, 37, 115, 44, 32, 110, 111, 116, 32, 37, 115]⟩ 2).run Tryz.prog w = .ok [(0, 115, false), (1, 115, false)] w := by kernel_rfl
@[go_sem] theorem Tryz.fmt1 : FmtStop.printed? ⟨#[115, 104, 111, 117, 108, 100, 32, 98, 101, 32, 37, 115, 44, 32, 110, 111, 116, 32, 37, 115]⟩ 0 = some [] := by kernel_rfl
@[go_sem] theorem Tryz.fmt1r (w : World) : (FmtDoors.printed ⟨#[115, 104, 111, 117, 108, 100, 32, 98, 101, 32, 37, 115, 44, 32, 110, 111, 116, 32, 37, 115]⟩ 0).run Tryz.prog w = .ok [] w := by kernel_rfl
def Tryz.shapeS : List UInt8 := [12, 6, 0, 0, 0, 0, 0, 0, 0, 115, 116, 114, 105, 110, 103]
@[go_sem] theorem Tryz.opS_115 (name : String) (x : ByteArray) (w : World) : (FmtStop.operand name false 115 false (.iface 9 (.string x))).run Tryz.prog w = .ok (Tryz.shapeS, FmtStop.pack x.data.toList) w := by kernel_rfl
@[go_sem] theorem Tryz.opS_115w (name : String) (x : ByteArray) (w : World) : (FmtStop.operand name true 115 false (.iface 9 (.string x))).run Tryz.prog w = .ok (Tryz.shapeS, FmtStop.pack x.data.toList) w := by kernel_rfl
@[go_sem] theorem Tryz.ptrE (w : World) : (FmtStop.ptrTo "errors.errorString").run Tryz.prog w = .ok 180 w := by kernel_rfl
@[go_sem] theorem Tryz.elemE (w : World) : (elemOf 180).run Tryz.prog w = .ok 182 w := by kernel_rfl
@[go_sem] theorem Tryz.isErrorE (w : World) : (FmtDoors.textMethod 180 "Error").run Tryz.prog w = .ok true w := by kernel_rfl

set_option maxRecDepth 100000 in
theorem errorf_any (F : Interp) (x y : ByteArray) (blk : Nat) (w : World) (hF : F.answers w.tape) (hc0 : w.cell? ⟨blk, 0, none⟩ = some (.iface 9 (.string x))) (hc1 : w.cell? ⟨blk, 1, none⟩ = some (.iface 9 (.string y))) :
    Calls Tryz.prog 114 #[.string ⟨#[115, 104, 111, 117, 108, 100, 32, 98, 101, 32, 37, 115, 44, 32, 110, 111, 116, 32, 37, 115]⟩, .slice (some ⟨blk, 0, none⟩) 2 2] w fun e w' => (∃ v, e = .returned (.iface 180 v)) ∧ Below w.heap.size w w' := by
  have hF' : ∀ i name reading k range, w.tape i (.extern (word name reading k) range) = F name reading k := hF
  go_enter Tryz.func114, Tryz.ntmps114
  go_wp2
  go_returns
  exact ⟨⟨_, rfl⟩, ((Below.refl _ w).alloc (Nat.le_refl _) _).drew⟩

set_option maxRecDepth 100000 in
set_option maxHeartbeats 2000000 in
theorem checkPathMajor_bad (F : Interp) (s v1 v2 v3 v4 v5 D z1 z2 : ByteArray) (w : World) (h : Ver3 s v1 v2 v3 v4 v5 D z1 z2) (hD : D.size ≤ 1000000) (hle : 1 + D.size ≤ s.size) (hF : F.answers w.tape)
    (hpre : Lib.hasPrefix s.data.toList [118, 48, 46, 48, 46, 48, 45] = false) (n0 : ((s.extract 0 (1 + D.size)).toList == [118, 48]) = false) (n1 : ((s.extract 0 (1 + D.size)).toList == [118, 49]) = false) :
    Calls Tryz.prog 76 #[.string s, .string ⟨#[]⟩] w fun e w' => (∃ t v, e = .returned (.iface t v)) ∧ Below w.heap.size w w' := by
  have HH := hide (And.intro hF hpre)
  have HV := hide (fun W => major_good s v1 v2 v3 v4 v5 D z1 z2 W h hD hle)
  have HB := hide (fun W => build_good s v1 v2 v3 v4 v5 D z1 z2 W h)
  clear hF hpre h hle
  go_enter Tryz.func76, Tryz.ntmps76
  go_wp2_with fail
  refine (hasPrefix_any ⟨#[]⟩ _ w).mono ?_
  rintro e w1 ⟨rfl, rfl⟩
  rw [show Lib.hasPrefix (⟨#[]⟩ : ByteArray).data.toList (⟨#[46, 118]⟩ : ByteArray).data.toList = false from rfl]
  go_wp2_with fail
  refine (hasPrefix_any s _ w).mono ?_
  rintro e w1 ⟨rfl, rfl⟩
  rw [show Lib.hasPrefix s.data.toList (⟨#[118, 48, 46, 48, 46, 48, 45]⟩ : ByteArray).data.toList = false from HH.out.2]
  go_wp2_with fail
  go_fit (HV.out w)
  rintro e w1 ⟨rfl, hb1⟩
  have HB1 := hide hb1
  clear hb1
  go_wp2_with fail
  go_fit (HB.out w1)
  rintro e w2 ⟨rfl, hb2⟩
  have HB2 := hide (HB1.out.trans (hb2.mono HB1.out.size))
  clear hb2
  go_wp2_with fail
  go_fit (HV.out w2)
  rintro e w3 ⟨rfl, hb3⟩
  have HB3 := hide (HB2.out.trans (hb3.mono HB2.out.size))
  clear hb3
  go_wp2_with fail
  have bV := Blk.new w3 20 #[Value.iface 9 (.string ⟨#[118, 48, 32, 111, 114, 32, 118, 49]⟩), Value.iface 9 (.string (s.extract 0 (1 + D.size)))]
  have hbV := HB3.out.alloc HB3.out.size (Obj.cells #[Value.iface 9 (.string ⟨#[118, 48, 32, 111, 114, 32, 118, 49]⟩), Value.iface 9 (.string (s.extract 0 (1 + D.size)))] 20)
  have HBV := hide hbV
  have BV := hide bV
  clear hbV bV
  generalize w3.alloc (Obj.cells #[Value.iface 9 (.string ⟨#[118, 48, 32, 111, 114, 32, 118, 49]⟩), Value.iface 9 (.string (s.extract 0 (1 + D.size)))] 20) = W at HBV BV ⊢
  go_fit (errorf_any F ⟨#[118, 48, 32, 111, 114, 32, 118, 49]⟩ (s.extract 0 (1 + D.size)) w3.heap.size W (by rw [HBV.out.tape]; exact HH.out.1) (BV.out.cell 0 rfl) (BV.out.cell 1 rfl))
  rintro e w4 ⟨⟨v, rfl⟩, hb4⟩
  have HB4 := hide (HBV.out.trans (hb4.mono HBV.out.size))
  clear hb4
  go_wp2_with fail
  go_returns
  exact ⟨⟨_, _, rfl⟩, HB4.out.alloc HB4.out.size _⟩
end Go.Proofs.YtifkpibjeamfkaaGreatFmt
