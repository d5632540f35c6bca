/-
  What all rows of this seat share: the listed table, a world in which it lies, the stops.
  zzContainsAny at a text without quotes; zzContains; MustQuote.
  strings.Join: its contract, laid for this dump by the tool of the kit that prints it.
-/
import Derived.Test.YtifkpibjeamfkaaGreatFmtRows
import Derived.Test.YtifkpibjeamfkaaGreatFmtZ04
import Derived.Lib.LaidTab
import Derived.Lib.LaidIn
import Derived.Lib.LaidU8
import Derived.ProofKit
import Derived.Stop.JoinedAt
import Derived.Stop.Texts
import Derived.Stop.JoinedTold
import Derived.SizedLaws
import Derived.SevenTiedAt
import Derived.Test.YtifkpibjeamfkaaGreatFmtZ03
import Derived.Lib.OthersKept
import Derived.Laws.RangeString
import Derived.WalkSmall
import Derived.Shelf.Strings.OnBuilder
import Derived.Test.YtifkpibjeamfkaaGreatFmtZ01
set_option linter.unusedVariables false
set_option linter.unusedSimpArgs false
set_option maxRecDepth 100000
namespace Go.Proofs.YtifkpibjeamfkaaGreatFmt
section
open Go.ChangeShapes Go.WideShapes Go.ChangeAt Go.RowKit Go.Kit
open Go.Extern.Stop Go.Stop Go.Extern
theorem Tryz.own:ownKnob Tryz.prog.godebug=none:=by kernel_rfl
theorem Tryz.laidOut:laidOutB Tryz.pinned.checked.prog=true:=by kernel_rfl
theorem Tryz.stops:Tryz.pinned.checked.prog.stops=["fmt.errorf"]:=by kernel_rfl
theorem Tryz.stopKnobs:Tryz.pinned.checked.prog.stopKnobs=[]:=by kernel_rfl
theorem Tryz.quiet (os:Os):Stop.quiet Tryz.pinned.checked.prog os:=by
 intro k hk
 rw [Tryz.stopKnobs] at hk
 cases hk
def dataInts:DataW Unit→List Int
 | .agg l=>l.map fun | .lit (.int _ n)=>n | _=>0
 | _=>[]
def zs:List Int:=dataInts Rows.laid_unicode_properties
theorem zs_data:(Rows.laid_unicode_properties:DataW Unit)=Lib.tabData .u8 zs:=by kernel_rfl
theorem zs_tab:((List.range 128).all fun c=>decide (0≤zs.getD c 0) && decide (zs.getD c 0 < 256) && ((bits BinOp.and IntKind.u8 (zs.getD c 0) 128 != 0) == decide (32≤c∧c≤126)))=true:=by kernel_rfl
theorem zs_len:zs.length=256:=by kernel_rfl
theorem Tryz.gP:Tryz.prog.globalNamed "unicode.properties"=some 0:=by kernel_rfl
theorem prTab_of_laid {W:World} (h:laidMetH Tryz.prog [("unicode.properties",Rows.laid_unicode_properties)] W):PrTab W∧0 < W.heap.size:=by
 have h1:laidMet Tryz.prog [("unicode.properties",Rows.laid_unicode_properties)] W:=h
 rw [zs_data] at h1
 have h2:Lib.TabIs Tryz.prog W "unicode.properties" .u8 zs:=Lib.tabIs_of_head (t:=184) (e:=5) (n:=256) Tryz.gP (by kernel_rfl) (by kernel_rfl) (by kernel_rfl) (by kernel_rfl) (by kernel_rfl) h1
 have hc:∀ j,W.cell? ⟨0,j,none⟩=(zs.map fun z=>Value.int .u8 z).toArray[j]?:=fun j=>World.var?_cell Tryz.gP h2 j
 have ht:=zs_tab
 rw [List.all_eq_true] at ht
 have hp:PrTab W:=by
   intro c hcl
   have h3:=ht c (by simpa using hcl)
   simp only [Bool.and_eq_true,decide_eq_true_eq,beq_iff_eq] at h3
   refine ⟨zs.getD c 0,?_,h3.1.1,h3.1.2,h3.2⟩
   rw [hc c]
   have hl:c < zs.length:=by rw [zs_len];omega
   simp [List.getD_eq_getElem?_getD,hl]
 obtain ⟨v,hv,_⟩:=hp 0 (by omega)
 exact ⟨hp,World.block_lt_of_cell? W _ hv⟩
noncomputable def laidWorld (os:Os):World :=
 let w0:=World.holding Tryz.prog os ⟨#[],#[],[]⟩
 { w0 with heap:=w0.heap.modify 0 fun
     | .cells _ t frozen=>.cells (zs.map (Value.int .u8)).toArray t frozen
     | o=>o }
set_option maxRecDepth 1000000 in
theorem laid_met (os:Os) (args:Array Value):laidMet Tryz.prog [("unicode.properties",Rows.laid_unicode_properties)] ((laidWorld os).forCall (fun _ _=>0) ⟨#[],args,[]⟩).memory :=
 (Go.LaidIn.of_run [0] 10 (by kernel_rfl) (by kernel_rfl) (by kernel_rfl) (by kernel_rfl)).met
end
section
open Go.RowKit Go.Proofs
def bt (s:ByteArray) (k:Nat):Nat:=(s.data.getD k 0).toNat
theorem bt_get (s:ByteArray) (k:Nat) (h:k < s.size):(s[k]'h).toNat=bt s k:=by
 simp only [bt,ByteArray.getElem_eq_getElem_data]
 rw [Array.getD_eq_getD_getElem?,Array.getElem?_eq_getElem h]
 rfl
def quotes:ByteArray:=⟨#[34,39,96]⟩
set_option maxHeartbeats 1000000 in
theorem indexAny_none (s:ByteArray) (w:World) (hs:∀ k,k < s.size→bt s k < 128∧bt s k≠34∧bt s k≠39∧bt s k≠96) :
   Calls Tryz.prog 107 #[.string s,.string quotes] w fun e w'=>e=.returned (.int .i64 (-1))∧Below w.heap.size w w':=by
 have q0:∀ (W:World) (ty:TypeId),(Instr.next (.pointer (some ⟨W.heap.size,0,none⟩)) true ty).run Tryz.prog (W.iter quotes 0)=.ok (.tuple #[.bool true,.int .i64 0,.int .i32 34]) (W.iter quotes 1):=fun W ty=>run_next_ascii W quotes 0 ty (by decide) (by decide)
 have q1:∀ (W:World) (ty:TypeId),(Instr.next (.pointer (some ⟨W.heap.size,0,none⟩)) true ty).run Tryz.prog (W.iter quotes 1)=.ok (.tuple #[.bool true,.int .i64 1,.int .i32 39]) (W.iter quotes 2):=fun W ty=>run_next_ascii W quotes 1 ty (by decide) (by decide)
 have q2:∀ (W:World) (ty:TypeId),(Instr.next (.pointer (some ⟨W.heap.size,0,none⟩)) true ty).run Tryz.prog (W.iter quotes 2)=.ok (.tuple #[.bool true,.int .i64 2,.int .i32 96]) (W.iter quotes 3):=fun W ty=>run_next_ascii W quotes 2 ty (by decide) (by decide)
 have q3:∀ (W:World) (ty:TypeId),(Instr.next (.pointer (some ⟨W.heap.size,0,none⟩)) true ty).run Tryz.prog (W.iter quotes 3)=.ok (.tuple #[.bool false]) (W.iter quotes 3):=fun W ty=>run_next_end W quotes 3 ty (by decide)
 have hu:Tryz.prog.underlying 9=some .string:=by kernel_rfl
 have hrq:∀ (W:World),(Instr.range 9 (.string quotes)).run Tryz.prog W=.ok (.pointer (some ⟨W.heap.size,0,none⟩)) (W.iter quotes 0):=fun W=>run_range_string W _ _ hu
 have hrs:∀ (W:World),(Instr.range 9 (.string s)).run Tryz.prog W=.ok (.pointer (some ⟨W.heap.size,0,none⟩)) (W.iter s 0):=fun W=>run_range_string W _ _ hu
 have HS:=hide hs
 clear hs
 go_enter Tryz.func107,Tryz.ntmps107
 go_wp2_with fail
 go_loopg [4,5,6,8] s.size (fun k v4 v5 v6 v8 wr=>Hid (∃ j,j+k=s.size∧wr.heap[w.heap.size]?=some (.stringIter s j)∧Below w.heap.size w wr))
 case atStart=>exact hide ⟨0,by omega,World.iter_heap w s 0,(Below.refl _ w).alloc (Nat.le_refl _) _⟩
 case round =>
   obtain ⟨j,hj,hit,hb⟩:=hrel.out
   clear hrel
   have hwl:w.heap.size < wr.heap.size:=(Array.getElem?_eq_some_iff.1 hit).1
   rcases Nat.lt_or_ge j s.size with hlt | hge
   · have hc:=HS.out j hlt
     have hn:∀ ty,(Instr.next (.pointer (some ⟨w.heap.size,0,none⟩)) true ty).run Tryz.prog wr=.ok (.tuple #[.bool true,.int .i64 j,.int .i32 (bt s j:Nat)]) (wr.iterAt w.heap.size s (j+1)):=by
       intro ty
       rw [Lib.run_next_ascii_at wr w.heap.size s j ty hit hlt (by rw [bt_get];exact hc.1),bt_get]
     have hit2:=Lib.iterAt_heap wr w.heap.size s j (j+1) hit
     have hb2:Below w.heap.size w (wr.iterAt w.heap.size s (j+1)):=Lib.below_iterAt hb (Nat.le_refl _) s (j+1)
     have hsz:=Lib.iterAt_size wr w.heap.size s (j+1)
     generalize wr.iterAt w.heap.size s (j+1)=W at hn hit2 hb2 hsz
     have f1:((bt s j:Int) == 34)=false:=by simp only [beq_eq_false_iff_ne];omega
     have f2:((bt s j:Int) == 39)=false:=by simp only [beq_eq_false_iff_ne];omega
     have f3:((bt s j:Int) == 96)=false:=by simp only [beq_eq_false_iff_ne];omega
     have hwl2:w.heap.size < W.heap.size:=by omega
     have HIT:=hide hit2
     have HB:=hide hb2
     clear hit hb hit2 hb2 hsz
     go_wp2_with fail
     refine wp_loop_rounds 4 ?_
     rw [rounds_succ]
     go_wp2_with fail
     rw [rounds_succ]
     go_wp2_with fail
     rw [rounds_succ]
     go_wp2_with fail
     rw [rounds_succ]
     go_wp2_with fail
     go_roundg (s.size - (j+1))
     case measure=>omega
     case rel =>
       refine hide ⟨j+1,by omega,?_,?_⟩
       · exact (Below.heap_alloc _ _ _ (by omega)).trans HIT.out
       · exact HB.out.alloc (by omega) _
   · have hn:∀ ty,(Instr.next (.pointer (some ⟨w.heap.size,0,none⟩)) true ty).run Tryz.prog wr=.ok (.tuple #[.bool false]) wr:=fun ty=>Lib.run_next_end_at wr w.heap.size s j ty hit (by omega)
     have HB:=hide hb
     clear hb hit
     go_wp2_with fail
     go_ret
     exact ⟨rfl,HB.out⟩
theorem containsAny_none (s:ByteArray) (w:World) (hs:∀ k,k < s.size→bt s k < 128∧bt s k≠34∧bt s k≠39∧bt s k≠96) :
   Calls Tryz.prog 72 #[.string s,.string quotes] w fun e w'=>e=.returned (.bool false)∧Below w.heap.size w w':=by
 go_enter Tryz.func72,Tryz.ntmps72
 go_wp2_with fail
 refine (indexAny_none s w hs).mono ?_
 rintro e w1 ⟨rfl,hb⟩
 have HB:=hide hb
 clear hb hs
 go_wp2_with fail
 go_ret
 exact ⟨rfl,HB.out⟩
end
section
open Go.RowKit Go.Proofs Go.Shelf
def Tryz.lays156_ren:Go.Shelf.Ren:=⟨fun | 156=>121 | 165=>148 | 166=>149 | 169=>150 | 240=>174 | 241=>175 | 276=>187 | 277=>188 | n=>n,fun | 31=>26 | 9=>9 | 3=>3 | 4=>4 | 0=>0 | 20=>20 | 72=>253 | 76=>255 | 70=>251 | 37=>69 | 75=>66 | 127=>280 | 164=>295 | 5=>5 | 80=>257 | n=>n,fun | n=>n⟩
theorem Tryz.lays156:Go.Proofs.Lays.n156 Tryz.prog Tryz.lays156_ren:={
 mixed:=by kernel_rfl
 f156:=Tryz.func121.trans (congrArg some (by kernel_rfl))
 f165:=Tryz.func148.trans (congrArg some (by kernel_rfl))
 f166:=Tryz.func149.trans (congrArg some (by kernel_rfl))
 f169:=Tryz.func150.trans (congrArg some (by kernel_rfl))
 f240:=Tryz.func174.trans (congrArg some (by kernel_rfl))
 f241:=Tryz.func175.trans (congrArg some (by kernel_rfl))
 f276:=Tryz.func187.trans (congrArg some (by kernel_rfl))
 f277:=Tryz.func188.trans (congrArg some (by kernel_rfl))
 t0:=Tryz.underlying0
 a0:=Tryz.isAgg0
 z0:=Tryz.sizeOf0
 v0:=Tryz.zeroValue0
 t3:=Tryz.underlying3
 a3:=Tryz.isAgg3
 z3:=Tryz.sizeOf3
 v3:=Tryz.zeroValue3
 t4:=Tryz.underlying4
 a4:=Tryz.isAgg4
 z4:=Tryz.sizeOf4
 v4:=Tryz.zeroValue4
 t9:=Tryz.underlying9
 a9:=Tryz.isAgg9
 z9:=Tryz.sizeOf9
 v9:=Tryz.zeroValue9
 t20:=Tryz.underlying20
 a20:=Tryz.isAgg20
 z20:=Tryz.sizeOf20
 v20:=Tryz.zeroValue20
 t31:=Tryz.underlying26
 a31:=Tryz.isAgg26
 z31:=Tryz.sizeOf26
 v31:=Tryz.zeroValue26
 t37:=Tryz.underlying69
 a37:=Tryz.isAgg69
 z37:=Tryz.sizeOf69
 v37:=Tryz.zeroValue69
 t70:=Tryz.underlying251
 a70:=Tryz.isAgg251
 z70:=Tryz.sizeOf251
 v70:=Tryz.zeroValue251
 t72:=Tryz.underlying253
 a72:=Tryz.isAgg253
 z72:=Tryz.sizeOf253
 v72:=Tryz.zeroValue253
 t75:=Tryz.underlying66
 a75:=Tryz.isAgg66
 z75:=Tryz.sizeOf66
 v75:=Tryz.zeroValue66
 t76:=Tryz.underlying255
 a76:=Tryz.isAgg255
 z76:=Tryz.sizeOf255
 v76:=Tryz.zeroValue255
 t127:=Tryz.underlying280
 a127:=Tryz.isAgg280
 z127:=Tryz.sizeOf280
 v127:=Tryz.zeroValue280
 t164:=Tryz.underlying295
 a164:=Tryz.isAgg295
 z164:=Tryz.sizeOf295
 v164:=Tryz.zeroValue295 }
theorem Tryz.Builder_Extra_156:Builder.Extra Tryz.prog Tryz.lays156_ren:={
 sizeBuilder:=by kernel_rfl
 liesBuilder:=by kernel_rfl
 t5:=Tryz.underlying5
 a5:=Tryz.isAgg5
 z5:=Tryz.sizeOf5
 v5:=Tryz.zeroValue5
 infoByte:=by kernel_rfl
 cellsByte:=by kernel_rfl
 sizeByte:=by kernel_rfl
 neB5:=by decide }
theorem Tryz.strings_Join_none (a:Option Addr) (c:Nat) (sep:ByteArray) (w:World) :
   Calls Tryz.prog 121 #[.slice a 0 c,.string sep] w fun e w'=>e=.returned (.string ⟨#[]⟩)∧w'=w:=Any.strings_Join_none Tryz.lays156 Tryz.Builder_Extra_156 a c sep w
theorem Tryz.strings_Join (bk o c:Nat) (xs:List ByteArray) (sep:ByteArray) (w:World) (hcells:∀ (j:Nat) x,xs[j]?=some x→w.cell? ⟨bk,o+j,none⟩=some (.string x)) (hbk:bk < w.heap.size) (hN:xs.length≤140737488355328) (hcap:xs.length≤c) (hlen:(Lib.join (xs.map (·.data.toList)) sep.data.toList).length≤140737488355328) :
   Calls Tryz.prog 121 #[.slice (some ⟨bk,o,none⟩) xs.length c,.string sep] w fun e w'=>e=.returned (.string ⟨(Lib.join (xs.map (·.data.toList)) sep.data.toList).toArray⟩)∧Below w.heap.size w w':=Any.strings_Join Tryz.lays156 Tryz.Builder_Extra_156 bk o c xs sep w hcells hbk hN hcap hlen
end
end Go.Proofs.YtifkpibjeamfkaaGreatFmt
