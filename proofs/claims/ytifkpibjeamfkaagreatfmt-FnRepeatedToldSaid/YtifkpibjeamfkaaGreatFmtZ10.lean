/-
  zzContains, spec.Stands: a text stands in another one.
  MustQuote at a text of printed signs.
  Small contracts of rule.go: comments that are not there; errors.
  AutoQuote, parseString at a text that needs no quotes.
  SplitPathVersion, modulePathMajor at a path that ends with a small letter.
  semver.parse, Canonical, Build at a text that does not begin with v.
  parseVersion at a version that does not begin with v.
  (*File).add's closures that lay an error.
-/
import Derived.Test.YtifkpibjeamfkaaGreatFmtZ05
import Derived.IntWalk
import Derived.Test.YtifkpibjeamfkaaGreatFmtZ08
import Derived.Test.YtifkpibjeamfkaaGreatFmtZ09
import Derived.Lib.SliceRun
set_option linter.unusedVariables false
set_option linter.unusedSimpArgs false
set_option maxRecDepth 100000
namespace Go.Proofs.YtifkpibjeamfkaaGreatFmt
section
open Go.RowKit Go.Proofs
def atB (s p:ByteArray) (k:Nat):Bool:=decide (k+p.size≤s.size) && ((s.extract k (k+p.size)).toList == p.toList)
def standsB (s p:ByteArray):Bool:=(List.range (s.size+1)).any (atB s p)
theorem stands_no {s p:ByteArray} {k:Nat} (h:∀ j,j < k→atB s p j=false) (hk:¬ k+p.size≤s.size):standsB s p=false:=by
 unfold standsB
 rw [List.any_eq_false]
 intro j _
 rcases Nat.lt_or_ge j k with hj | hj
 · simp [h j hj]
 · unfold atB
   simp;omega
theorem stands_yes {s p:ByteArray} {k:Nat} (h:atB s p k=true) (hk:k+p.size≤s.size):standsB s p=true:=by
 unfold standsB
 rw [List.any_eq_true]
 exact ⟨k,by simp;omega,h⟩
set_option maxHeartbeats 1000000 in
theorem zzIndex_any (s p:ByteArray) (w:World) (hs:s.size≤1000000) (hp:p.size≤1000000) :
   Calls Tryz.prog 82 #[.string s,.string p] w fun e w'=>(∃ k:Int,e=.returned (.int .i64 k)∧decide (0≤k)=standsB s p)∧w'=w:=by
 go_enter Tryz.func82,Tryz.ntmps82
 go_wp2_with fail
 go_loopg [4,5] (s.size+1) (fun k v4 v5 wr=>wr=w∧∃ j:Nat,j+k=s.size+1∧v5=.int .i64 (j:Int)∧Hid (∀ i,i < j→atB s p i=false))
 case atStart=>exact ⟨rfl,0,by omega,rfl,hide (fun i h=>by omega)⟩
 case round =>
   obtain ⟨rfl,j,hj,rfl,HN⟩:=hrel
   have hwr:IntKind.i64.wrap ((j:Int)+(p.size:Int))=(j:Int)+(p.size:Int):=Go.IntWalk.i64_in _ (by omega)
   rcases Nat.lt_or_ge s.size (j+p.size) with hlt | hge
   · have hno:¬ ((j:Int)+(p.size:Int)≤(s.size:Int)):=by omega
     go_wp2_with fail
     go_ret
     exact ⟨⟨-1,rfl,by rw [stands_no HN.out (by omega)];rfl⟩,rfl⟩
   · have hyes:(j:Int)+(p.size:Int)≤(s.size:Int):=by omega
     have h0:(0:Int)≤(j:Int):=by omega
     have h1:(j:Int)≤(j:Int)+(p.size:Int):=by omega
     go_wp2_with fail
     · rename_i h
       go_ret
       have ha:atB s p j=true:=by unfold atB;rw [h];simp;omega
       exact ⟨⟨j,rfl,by rw [stands_yes ha (by omega)];simp⟩,rfl⟩
     · rename_i h
       go_roundg (s.size+1 - (j+1))
       case measure=>omega
       case rel =>
         refine ⟨rfl,j+1,by omega,by simp,hide (fun i hi=>?_)⟩
         rcases Nat.lt_or_ge i j with h2 | h2
         · exact HN.out i h2
         · obtain rfl:i=j:=by omega
           unfold atB
           rw [h]
           simp
theorem zzContains_any (s p:ByteArray) (w:World) (hs:s.size≤1000000) (hp:p.size≤1000000) :
   Calls Tryz.prog 55 #[.string s,.string p] w fun e w'=>e=.returned (.bool (standsB s p))∧w'=w:=by
 go_enter Tryz.func55,Tryz.ntmps55
 go_wp2_with fail
 refine (zzIndex_any s p w hs hp).mono ?_
 rintro e w1 ⟨⟨k,rfl,hk⟩,rfl⟩
 have HK:=hide hk
 clear hk
 go_wp2_with fail
 go_ret
 refine ⟨?_,rfl⟩
 rw [← HK.out]
 rfl
end
section
open Go.RowKit Go.Proofs
def qCh (c:Nat):Bool:=c == 32 || c == 34 || c == 39 || c == 96
def brCh (c:Nat):Bool:=c == 40 || c == 41 || c == 91 || c == 93 || c == 123 || c == 125 || c == 44
def s2:ByteArray:=⟨#[47,47]⟩
def s3:ByteArray:=⟨#[47,42]⟩
def mqAt (s:ByteArray) (k:Nat):Bool:=qCh (bt s k) || (brCh (bt s k) && decide (1 < s.size))
def mqB (s:ByteArray):Bool:=(List.range s.size).any (mqAt s) || s.size == 0 || standsB s s2 || standsB s s3
set_option maxHeartbeats 2000000 in
theorem mustQuote_any (s:ByteArray) (w:World) (hs:∀ k,k < s.size→32≤bt s k∧bt s k≤126) (hl:s.size≤1000000) (hpr:PrTab w) (hP:0 < w.heap.size) :
   Calls Tryz.prog 47 #[.string s] w fun e w'=>e=.returned (.bool (mqB s))∧Below w.heap.size w w':=by
 have hu:Tryz.prog.underlying 9=some .string:=by kernel_rfl
 have hrs:∀ (W:World),(Instr.range 9 (.string s)).run Tryz.prog W=.ok (.pointer (some ⟨W.heap.size,0,none⟩)) (W.iter s 0):=fun W=>run_range_string W _ _ hu
 have HS:=hide hs
 have HP:=hide hpr
 clear hs hpr
 go_enter Tryz.func47,Tryz.ntmps47
 go_wp2_with fail
 go_loopg [2,4] s.size (fun k v2 v4 wr=>v2=.bool false∧∃ j,j+k=s.size∧wr=w.iter s j∧Hid (∀ i,i < j→mqAt s i=false))
 case atStart=>exact ⟨rfl,0,by omega,rfl,hide (fun i h=>by omega)⟩
 case round =>
   obtain ⟨rfl,j,hj,rfl,HN⟩:=hrel
   rcases Nat.lt_or_ge j s.size with hlt | hge
   · have hc:=HS.out j hlt
     have hn:∀ ty,(Instr.next (.pointer (some ⟨w.heap.size,0,none⟩)) true ty).run Tryz.prog (w.iter s j)=.ok (.tuple #[.bool true,.int .i64 j,.int .i32 (bt s j:Nat)]) (w.iter s (j+1)):=by
       intro ty
       rw [run_next_ascii w s j ty hlt (by rw [bt_get];omega),bt_get]
     have hpr1:PrTab (w.iter s (j+1)):=HP.out.keptT (N:=w.heap.size) (S:=fun _=>False) ((Kt.refl _ _ _).alloc (Nat.le_refl _) _) hP
     have HP1:=hide hpr1
     clear hpr1
     have hyes:mqAt s j=true→mqB s=true:=by
       intro h
       unfold mqB
       have:(List.range s.size).any (mqAt s)=true:=List.any_eq_true.2 ⟨j,by simpa using hlt,h⟩
       rw [this];rfl
     have hbel:Below w.heap.size w (w.iter s (j+1)):=(Below.refl _ w).alloc (Nat.le_refl _) _
     have HY:=hide hyes
     have HB:=hide hbel
     clear hyes hbel
     rcases hq:qCh (bt s j) with _ | _
     · rcases hb:brCh (bt s j) with _ | _
       · -- a plain sign
         have hno:mqAt s j=false:=by unfold mqAt;rw [hq,hb];rfl
         simp only [qCh,brCh,Bool.or_eq_false_iff,beq_eq_false_iff_ne] at hq hb
         have f32:((bt s j:Int) == 32)=false:=by simp only [beq_eq_false_iff_ne];omega
         have f34:((bt s j:Int) == 34)=false:=by simp only [beq_eq_false_iff_ne];omega
         have f39:((bt s j:Int) == 39)=false:=by simp only [beq_eq_false_iff_ne];omega
         have f96:((bt s j:Int) == 96)=false:=by simp only [beq_eq_false_iff_ne];omega
         have f40:((bt s j:Int) == 40)=false:=by simp only [beq_eq_false_iff_ne];omega
         have f41:((bt s j:Int) == 41)=false:=by simp only [beq_eq_false_iff_ne];omega
         have f91:((bt s j:Int) == 91)=false:=by simp only [beq_eq_false_iff_ne];omega
         have f93:((bt s j:Int) == 93)=false:=by simp only [beq_eq_false_iff_ne];omega
         have f123:((bt s j:Int) == 123)=false:=by simp only [beq_eq_false_iff_ne];omega
         have f125:((bt s j:Int) == 125)=false:=by simp only [beq_eq_false_iff_ne];omega
         have f44:((bt s j:Int) == 44)=false:=by simp only [beq_eq_false_iff_ne];omega
         have hpt:decide (32≤bt s j∧bt s j≤126)=true:=decide_eq_true hc
         have hca:bt s j < 128:=by omega
         have HPT:=hide hpt
         have HNO:=hide hno
         clear hq hb hpt hno hc
         go_wp2_with fail
         refine (isPrint_ascii (bt s j) _ hca HP1.out).mono ?_
         rw [HPT.out]
         rintro e w1 ⟨rfl,rfl⟩
         go_wp2_with fail
         go_roundg (s.size - (j+1))
         case measure=>omega
         case rel =>
           refine ⟨rfl,j+1,by omega,rfl,hide (fun i hi=>?_)⟩
           rcases Nat.lt_or_ge i j with h2 | h2
           · exact HN.out i h2
           · obtain rfl:i=j:=by omega
             exact HNO.out
       · -- a bracket or a comma
         have h7:bt s j=40∨bt s j=41∨bt s j=91∨bt s j=93∨bt s j=123∨bt s j=125∨bt s j=44:=by
           simp only [brCh,Bool.or_eq_true,beq_iff_eq] at hb
           omega
         rcases Nat.lt_or_ge 1 s.size with hs1 | hs1
         · have hmq:mqB s=true:=HY.out (by unfold mqAt;rw [hq,hb];simp;omega)
           have HM:=hide hmq
           have hs2:(1:Int) < (s.size:Int):=by omega
           clear hmq hq hb
           rcases h7 with h4 | h4 | h4 | h4 | h4 | h4 | h4
           all_goals
             rw [h4] at hn
             clear h4 hc
             go_wp2_with fail
             go_ret
             exact ⟨by rw [HM.out];rfl,HB.out⟩
         · have hno:mqAt s j=false:=by unfold mqAt;rw [hq,hb];simp;omega
           have HNO:=hide hno
           have hs2:¬ (1:Int) < (s.size:Int):=by omega
           clear hq hb hno
           rcases h7 with h4 | h4 | h4 | h4 | h4 | h4 | h4
           all_goals
             rw [h4] at hn
             clear h4 hc
             go_wp2_with fail
             go_roundg (s.size - (j+1))
             case measure=>omega
             case rel =>
               refine ⟨rfl,j+1,by omega,rfl,hide (fun i hi=>?_)⟩
               rcases Nat.lt_or_ge i j with h2 | h2
               · exact HN.out i h2
               · obtain rfl:i=j:=by omega
                 exact HNO.out
     · -- a blank, a quote
       have hmq:mqB s=true:=HY.out (by unfold mqAt;rw [hq];rfl)
       have h4:bt s j=32∨bt s j=34∨bt s j=39∨bt s j=96:=by
         simp only [qCh,Bool.or_eq_true,beq_iff_eq] at hq
         omega
       have HM:=hide hmq
       clear hmq hq
       rcases h4 with h4 | h4 | h4 | h4
       all_goals
         rw [h4] at hn
         clear h4 hc
         go_wp2_with fail
         go_ret
         exact ⟨by rw [HM.out];rfl,HB.out⟩
   · obtain rfl:j=s.size:=by omega
     have hany:(List.range s.size).any (mqAt s)=false:=by
       rw [List.any_eq_false]
       intro i hi
       simp [HN.out i (by simpa using hi)]
     have hn:∀ ty,(Instr.next (.pointer (some ⟨w.heap.size,0,none⟩)) true ty).run Tryz.prog (w.iter s s.size)=.ok (.tuple #[.bool false]) (w.iter s s.size):=fun ty=>run_next_end w s s.size ty (by omega)
     have hbel:Below w.heap.size w (w.iter s s.size):=(Below.refl _ w).alloc (Nat.le_refl _) _
     have HB:=hide hbel
     have hmq:mqB s=(s.size == 0 || standsB s s2 || standsB s s3):=by unfold mqB;rw [hany];simp
     have HM:=hide hmq
     clear hany hbel hmq
     have he0:s.toList.isEmpty=(s.size == 0):=by
       rw [Lib.toList_data]
       rcases s with ⟨⟨l⟩⟩
       cases l <;> rfl
     rcases hz:(s.size == 0) with _ | _
     · have hsn:s.toList.isEmpty=false:=he0.trans hz
       clear he0
       have hz':=HM.out
       rw [hz] at hz'
       have HZ:=hide hz'
       clear hz hz' HM
       rcases h2:standsB s s2 with _ | _
       · rcases h3:standsB s s3 with _ | _
         all_goals
           have H2:=hide h2
           have H3:=hide h3
           clear h2 h3
           go_wp2_with fail
           refine (zzContains_any s s2 _ hl (by decide)).mono ?_
           rw [H2.out]
           rintro e w1 ⟨rfl,rfl⟩
           go_wp2_with fail
           refine (zzContains_any s s3 _ hl (by decide)).mono ?_
           rw [H3.out]
           rintro e w1 ⟨rfl,rfl⟩
           go_wp2_with fail
           go_ret
           exact ⟨by rw [HZ.out,H2.out,H3.out];rfl,HB.out⟩
       · have H2:=hide h2
         clear h2
         go_wp2_with fail
         refine (zzContains_any s s2 _ hl (by decide)).mono ?_
         rw [H2.out]
         rintro e w1 ⟨rfl,rfl⟩
         go_wp2_with fail
         go_ret
         exact ⟨by rw [HZ.out,H2.out];rfl,HB.out⟩
     · have hsn:s.toList.isEmpty=true:=he0.trans hz
       clear he0
       have hz':=HM.out
       rw [hz] at hz'
       have HZ:=hide hz'
       clear hz hz' HM
       go_wp2_with fail
       go_ret
       exact ⟨by rw [HZ.out];rfl,HB.out⟩
end
section
open Go.RowKit Go.Proofs
theorem join_nil (w:World) (sep:ByteArray):Calls Tryz.prog 121 #[.slice none 0 0,.string sep] w fun e w'=>e=.returned (.string ⟨#[]⟩)∧w=w':=by
 go_enter Tryz.func121,Tryz.ntmps121
 go_wp2
 go_ret
 exact ⟨rfl,rfl⟩
theorem deprecated_empty (w:World):Calls Tryz.prog 105 #[.string ⟨#[]⟩] w fun e w'=>e=.returned (.slice none 0 0)∧w=w':=by
 go_enter Tryz.func105,Tryz.ntmps105
 go_wp2_with fail
 refine wp_loop_rounds 1 ?_
 rw [rounds_succ]
 go_wp2_with fail
 go_ret
 exact ⟨rfl,rfl⟩
set_option maxHeartbeats 1000000 in
theorem directive_none (L:Nat) (w:World) (h0:w.cell? ⟨L,0,none⟩=some (.slice none 0 0)) (h1:w.cell? ⟨L,1,none⟩=some (.slice none 0 0)) :
   Calls Tryz.prog 79 #[.pointer none,.pointer (some ⟨L,0,none⟩)] w fun e w'=>e=.returned (.string ⟨#[]⟩)∧Below w.heap.size w w':=by
 have hlt:L < w.heap.size:=World.block_lt_of_cell? w _ h0
 have hne:w.heap.size≠L:=by omega
 go_enter Tryz.func79,Tryz.ntmps79
 go_wp2_with fail
 refine (comment_any _ _).mono ?_
 rintro e w1 ⟨rfl,rfl⟩
 go_wp2_with fail
 go_region_held3 (fun w'=>w'.cell? ⟨L,0,none⟩=some (.slice none 0 0)∧w'.cell? ⟨L,1,none⟩=some (.slice none 0 0)) (go_keep) (fail)
 all_goals go_wp2_with fail
 have hB:=Blk.new w 124 #[Value.slice none 0 0,Value.slice none 0 0]
 have g0:(w.alloc (Obj.cells #[Value.slice none 0 0,Value.slice none 0 0] 124)).cell? ⟨w.heap.size,0,none⟩=some (.slice none 0 0):=hB.cell 0 rfl
 have g1:(w.alloc (Obj.cells #[Value.slice none 0 0,Value.slice none 0 0] 124)).cell? ⟨w.heap.size,1,none⟩=some (.slice none 0 0):=hB.cell 1 rfl
 have hb:Below w.heap.size w (w.alloc (Obj.cells #[Value.slice none 0 0,Value.slice none 0 0] 124)).drew:=((Below.refl _ w).alloc (Nat.le_refl _) _).drew
 have HB:=hide hb
 clear hb hB
 refine wp_loop_rounds 3 ?_
 rw [rounds_succ]
 go_wp2_with fail
 refine wp_loop_rounds 1 ?_
 rw [rounds_succ]
 go_wp2_with fail
 rw [rounds_succ]
 go_wp2_with fail
 refine wp_loop_rounds 1 ?_
 rw [rounds_succ]
 go_wp2_with fail
 rw [rounds_succ]
 go_wp2_with fail
 refine (join_nil _ _).mono ?_
 rintro e w1 ⟨rfl,rfl⟩
 go_wp2_with fail
 go_ret
 exact ⟨rfl,HB.out⟩
theorem deprecation_none (L:Nat) (w:World) (h0:w.cell? ⟨L,0,none⟩=some (.slice none 0 0)) (h1:w.cell? ⟨L,1,none⟩=some (.slice none 0 0)) :
   Calls Tryz.prog 70 #[.pointer none,.pointer (some ⟨L,0,none⟩)] w fun e w'=>e=.returned (.string ⟨#[]⟩)∧Below w.heap.size w w':=by
 go_enter Tryz.func70,Tryz.ntmps70
 have hq:∀ (w:World) (a:Option Addr) (n c n' c':Nat),(binOp .eql 26 (.slice a n c) (.slice none n' c')).run Tryz.prog w=.ok (.bool a.isNone) w:=fun w a n c n' c'=>Lib.run_eql_slice_nil w _ _ a n c n' c' Tryz.und_strs
 go_wp2_with fail
 refine (directive_none L w h0 h1).mono ?_
 rintro e w1 ⟨rfl,hb⟩
 have HB:=hide hb
 clear hb
 go_wp2_with fail
 refine (deprecated_empty _).mono ?_
 rintro e w2 ⟨rfl,rfl⟩
 go_wp2_with fail
 go_ret
 exact ⟨rfl,HB.out⟩
theorem errors_new (s:ByteArray) (w:World) :
   Calls Tryz.prog 53 #[.string s] w fun e w'=>e=.returned (.iface 180 (.pointer (some ⟨w.heap.size,0,none⟩)))∧w'=w.alloc (Obj.cells #[Value.string s] 182):=by
 go_enter Tryz.func53,Tryz.ntmps53
 go_wp2
 go_ret
 exact ⟨rfl,rfl⟩
end
section
open Go.RowKit Go.Proofs
theorem autoQuote_plain (s:ByteArray) (w:World) (hs:∀ k,k < s.size→32≤bt s k∧bt s k≤126) (hl:s.size≤1000000) (hq:mqB s=false) (hpr:PrTab w) (hP:0 < w.heap.size) :
   Calls Tryz.prog 39 #[.string s] w fun e w'=>e=.returned (.string s)∧Below w.heap.size w w':=by
 have HS:=hide hs
 have HQ:=hide hq
 have HP:=hide hpr
 clear hs hq hpr
 go_enter Tryz.func39,Tryz.ntmps39
 go_wp2_with fail
 refine (mustQuote_any s w HS.out hl HP.out hP).mono ?_
 rw [HQ.out]
 rintro e w1 ⟨rfl,hb⟩
 have HB:=hide hb
 clear hb
 go_wp2_with fail
 go_ret
 exact ⟨rfl,HB.out⟩
set_option maxHeartbeats 1000000 in
theorem parseString_plain (R i:Nat) (cur:Array Value) (s:ByteArray) (w:World) (hR:Blk w R 9 cur) (hi:cur[i]?=some (.string s)) (hs:∀ k,k < s.size→32≤bt s k∧bt s k≤126∧bt s k≠34∧bt s k≠39∧bt s k≠96)
   (hf:Lib.hasPrefix s.data.toList [34]=false) (hl:s.size≤1000000) (hq:mqB s=false) (hpr:PrTab w) (hP:0 < w.heap.size) :
   Calls Tryz.prog 71 #[.pointer (some ⟨R,i,none⟩)] w fun e w'=>e=.returned (.tuple #[.string s,.nilIface])∧Below w.heap.size w w':=by
 have h0:w.cell? ⟨R,i,none⟩=some (.string s):=hR.cell i hi
 have HR:=hide hR
 have HS:=hide hs
 have HF:=hide hf
 have HQ:=hide hq
 have HP:=hide hpr
 have HI:=hide hi
 clear hR hs hf hq hpr hi
 go_enter Tryz.func71,Tryz.ntmps71
 go_wp2_with fail
 refine (hasPrefix_any s _ w).mono ?_
 rintro e w1 ⟨rfl,rfl⟩
 rw [show Lib.hasPrefix s.data.toList (⟨#[34]⟩:ByteArray).data.toList=false from HF.out]
 go_wp2_with fail
 refine (containsAny_none s w (fun k hk=>by have:=HS.out k hk;omega)).mono ?_
 rintro e w2 ⟨rfl,hb2⟩
 have HB2:=hide hb2
 have hP2:0 < w2.heap.size:=Nat.lt_of_lt_of_le hP hb2.size
 clear hb2
 go_wp2_with fail
 refine (autoQuote_plain s w2 (fun k hk=>by have:=HS.out k hk;omega) hl HQ.out (HP.out.keptT (N:=w.heap.size) (S:=fun _=>True) ⟨HB2.out,fun k cs t fz e hn=>absurd True.intro hn⟩ hP) hP2).mono ?_
 rintro e w3 ⟨rfl,hb3⟩
 have hb13:Below w.heap.size w w3:=HB2.out.trans (hb3.mono HB2.out.size)
 have hR3:=HR.out.kept (Kp.of_below (X:=fun _=>False) hb13) (fun h=>h)
 have c3:w3.cell? ⟨R,i,none⟩=some (.string s):=hR3.cell i HI.out
 have f3:w3.frozen? ⟨R,i,none⟩=false:=hR3.free i
 have s3:w3.setCell ⟨R,i,none⟩ (.string s)=w3:=hR3.set_id HI.out
 have HB3:=hide hb13
 clear hb13 hR3 hb3
 go_wp2_with fail
 go_returns
 exact ⟨rfl,HB3.out⟩
end
section
open Go.RowKit Go.Proofs
def gopkg:ByteArray:=⟨#[103,111,112,107,103,46,105,110,47]⟩
set_option maxHeartbeats 1000000 in
theorem splitPath_plain (s:ByteArray) (n:Nat) (w:World) (hn:s.size=n+1) (hl:s.size≤1000000) (hc:97≤bt s n∧bt s n≤122) (hf:Lib.hasPrefix s.data.toList gopkg.data.toList=false) :
   Calls Tryz.prog 109 #[.string s] w fun e w'=>e=.returned (.tuple #[.string s,.string ⟨#[]⟩,.bool true])∧w'=w:=by
 have HF:=hide hf
 clear hf
 have hwr:IntKind.i64.wrap (n:Int)=(n:Int):=IntWalk.i64_in _ (by omega)
 have hget:(s[n]'(by omega)).toNat=bt s n:=bt_get s n (by omega)
 have h48:(48:Int)≤(bt s n:Int):=by omega
 have h57:¬ (bt s n:Int)≤57:=by omega
 have f46:((bt s n:Int) == 46)=false:=by simp only [beq_eq_false_iff_ne];omega
 go_enter Tryz.func109,Tryz.ntmps109
 go_wp2_with fail
 refine (hasPrefix_any s _ w).mono ?_
 rintro e w1 ⟨rfl,rfl⟩
 rw [show Lib.hasPrefix s.data.toList (⟨#[103,111,112,107,103,46,105,110,47]⟩:ByteArray).data.toList=false from HF.out]
 go_wp2_with fail
 refine wp_loop_rounds 1 ?_
 rw [rounds_succ]
 go_wp2_with fail
 all_goals go_returns
 all_goals exact ⟨rfl,rfl⟩
theorem pathMajor_plain (s:ByteArray) (n:Nat) (w:World) (hn:s.size=n+1) (hl:s.size≤1000000) (hc:97≤bt s n∧bt s n≤122) (hf:Lib.hasPrefix s.data.toList gopkg.data.toList=false) :
   Calls Tryz.prog 75 #[.string s] w fun e w'=>e=.returned (.tuple #[.string ⟨#[]⟩,.nilIface])∧w'=w:=by
 have HF:=hide hf
 clear hf
 go_enter Tryz.func75,Tryz.ntmps75
 go_wp2_with fail
 refine (splitPath_plain s n w hn hl hc HF.out).mono ?_
 rintro e w1 ⟨rfl,rfl⟩
 go_wp2_with fail
 go_returns
 exact ⟨rfl,rfl⟩
end
section
open Go.RowKit Go.Proofs
def parsedZero:Value:=.agg #[.string ⟨#[]⟩,.string ⟨#[]⟩,.string ⟨#[]⟩,.string ⟨#[]⟩,.string ⟨#[]⟩,.string ⟨#[]⟩]
set_option maxHeartbeats 1000000 in
theorem semver_bad (s:ByteArray) (n:Nat) (w:World) (hn:s.size=n+1) (hv:bt s 0≠118) :
   Calls Tryz.prog 143 #[.string s] w fun e w'=>e=.returned (.tuple #[parsedZero,.bool false])∧Below w.heap.size w w':=by
 have hget:(s[0]'(by omega)).toNat=bt s 0:=bt_get s 0 (by omega)
 have f:((bt s 0:Int) != 118)=true:=by simp only [bne_iff_ne];omega
 have h0:(0:Int) < (n:Int)+1:=by omega
 have he:s.toList.isEmpty=false:=by
   rw [Lib.toList_data]
   rcases s with ⟨⟨l⟩⟩
   cases l with
   | nil=>simp [ByteArray.size] at hn
   | cons a l=>rfl
 go_enter Tryz.func143,Tryz.ntmps143
 go_wp2_with fail
 refine bodyPost_ret (v:=.tuple #[parsedZero,.bool false]) (by simp [results,Tryz.results143,go_sem,parsedZero]) rfl ⟨rfl,(Below.refl _ w).alloc (Nat.le_refl _) _⟩
end
section
open Go.RowKit Go.Proofs
structure Plain (s:ByteArray):Prop where
 chars:∀ k,k < s.size→32≤bt s k∧bt s k≤126∧bt s k≠34∧bt s k≠39∧bt s k≠96
 first:Lib.hasPrefix s.data.toList [34]=false
 len:s.size≤1000000
 mq:mqB s=false
end
section
open Go.RowKit Go.Proofs
theorem Tryz.infoErr:(Tryz.prog.info? 146).map (fun i=>(i.zero.map (fun z=>z.cells.size),i.size,i.bytes))=some (some 7,7,88):=by kernel_rfl
theorem Tryz.und_errs:Tryz.prog.underlying 121=some (.slice 146):=by kernel_rfl
structure AddAt (w:World) (vE vF vL E f F L:Nat) (nm:ByteArray) (a1 a2 a3:Int):Prop where
 cE:w.cell? ⟨vE,0,none⟩=some (.pointer (some ⟨E,0,none⟩))
 cF:w.cell? ⟨vF,0,none⟩=some (.pointer (some ⟨f,0,none⟩))
 cL:w.cell? ⟨vL,0,none⟩=some (.pointer (some ⟨L,0,none⟩))
 cS:w.cell? ⟨f,10,none⟩=some (.pointer (some ⟨F,0,none⟩))
 cN:w.cell? ⟨F,0,none⟩=some (.string nm)
 c3:w.cell? ⟨L,3,none⟩=some (.int .i64 a1)
 c4:w.cell? ⟨L,4,none⟩=some (.int .i64 a2)
 c5:w.cell? ⟨L,5,none⟩=some (.int .i64 a3)
theorem AddAt.below {w w':World} {vE vF vL E f F L:Nat} {nm:ByteArray} {a1 a2 a3:Int} (h:AddAt w vE vF vL E f F L nm a1 a2 a3) (k:Below w.heap.size w w'):AddAt w' vE vF vL E f F L nm a1 a2 a3:=by
 obtain ⟨cE,cF,cL,cS,cN,c3,c4,c5⟩:=h
 exact ⟨(k.cell (World.block_lt_of_cell? w _ cE)).trans cE,(k.cell (World.block_lt_of_cell? w _ cF)).trans cF,(k.cell (World.block_lt_of_cell? w _ cL)).trans cL,(k.cell (World.block_lt_of_cell? w _ cS)).trans cS,
   (k.cell (World.block_lt_of_cell? w _ cN)).trans cN,(k.cell (World.block_lt_of_cell? w _ c3)).trans c3,(k.cell (World.block_lt_of_cell? w _ c4)).trans c4,(k.cell (World.block_lt_of_cell? w _ c5)).trans c5⟩
end
end Go.Proofs.YtifkpibjeamfkaaGreatFmt
