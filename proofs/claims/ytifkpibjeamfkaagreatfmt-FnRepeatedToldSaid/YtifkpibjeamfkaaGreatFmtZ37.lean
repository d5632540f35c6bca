/-
  parseDirectiveComment at any comments: it returns a text.
-/
import Derived.Test.YtifkpibjeamfkaaGreatFmtZ36
import Derived.Test.YtifkpibjeamfkaaGreatFmtZ05
import Derived.Test.YtifkpibjeamfkaaGreatFmtZ27
import Derived.Deep.DeepFit
set_option linter.unusedVariables false
set_option linter.unusedSimpArgs false
set_option maxRecDepth 100000
namespace Go.Proofs.YtifkpibjeamfkaaGreatFmt
section
open Go.RowKit Go.Proofs
def ComsAt (N:Nat) (w:World) (b:Nat) (t:TypeId):Prop:=∃ cs bv sv c1 c2,Blk w b t cs∧cs[0]?=some bv∧cs[1]?=some sv∧CmB N w bv c1∧CmB N w sv c2
def LnI (N:Nat) (n:Nat) (v:Value) (wr:World):Prop:=∃ ss:List ByteArray,wr.ownsRow N 9 1 v ss.length (ss.map Value.string)∧ss.length≤n∧∀ s ∈ ss,s.size≤1000000
theorem join_len (M:Nat) (xs:List (List UInt8)) (sep:List UInt8) (h:∀ x ∈ xs,x.length≤M):(Lib.join xs sep).length≤xs.length * (M+sep.length):=by
 rcases xs with _ | ⟨x,r⟩
 · simp [Lib.join_nil]
 · rw [Lib.join_cons,List.length_append]
   have h1:=h x (List.mem_cons_self ..)
   have h2:(Lib.joinTail sep r).length≤r.length * (M+sep.length):=by
     have hr:∀ y ∈ r,y.length≤M:=fun y hy=>h y (List.mem_cons_of_mem _ hy)
     clear h h1
     induction r with
     | nil=>simp [Lib.joinTail]
     | cons y r ih =>
       have h3:=ih (fun z hz=>hr z (List.mem_cons_of_mem _ hz))
       have h4:=hr y (List.mem_cons_self ..)
       simp only [Lib.joinTail,List.map_cons,List.flatten_cons,List.length_append,List.length_cons,Nat.add_mul] at h3 ⊢
       omega
   simp only [List.length_cons,Nat.add_mul,Nat.one_mul]
   omega
theorem arr_size (l:List UInt8):(⟨l.toArray⟩:ByteArray).size=l.length:=by simp [ByteArray.size]
theorem txt_asc {c:Cmt} (h:c.ok):AscS (mkS c.txt):=by
 refine ⟨by rw [mkS_len];exact h.1,fun k=>?_⟩
 rw [bt_mk]
 rcases Nat.lt_or_ge k c.txt.length with hk | hk
 · obtain ⟨x,hx,e⟩:=chM c.txt k hk
   rw [e];exact h.2 x hx
 · simp [ch,List.getD_eq_getElem?_getD,List.getElem?_eq_none hk]
theorem trimPre_asc {s:ByteArray} (p:List UInt8) (h:AscS s):AscS (mkS (Lib.trimPrefix s.data.toList p)):=by
 unfold Lib.trimPrefix
 split
 · refine ⟨by rw [mkS_len];have:=h.1;have h2:=bsl_len s;unfold bsl at h2;simp [h2];omega,fun k=>?_⟩
   rw [bt_mk]
   have h3:=h.2 (p.length+k)
   rw [bt_ch] at h3
   simpa [ch,bsl,List.getD_eq_getElem?_getD,List.getElem?_drop] using h3
 · rw [mkS_of];exact h
theorem LnI.kept {N M n:Nat} {S:Nat→TypeId→Prop} {v:Value} {w w':World} (h:LnI N n v w) (k:Ku M S w w') (hs:∀ g,¬ S g 9):LnI N n v w':=by
 obtain ⟨ss,h1,h2,h3⟩:=h
 exact ⟨ss,ownsRow_keptU h1 k (fun g _=>hs g),h2,h3⟩
theorem LnI.nil (N n:Nat) (w:World):LnI N n (.slice none 0 0) w:=⟨[],⟨rfl,Or.inl ⟨rfl,rfl⟩⟩,Nat.zero_le _,fun s hs=>by cases hs⟩
theorem LnI.le {N n m:Nat} {v:Value} {w:World} (h:LnI N n v w) (hm:n≤m):LnI N m v w:=by
 obtain ⟨ss,h1,h2,h3⟩:=h
 exact ⟨ss,h1,by omega,h3⟩
def DcI (N:Nat) (w W:World) (n:Nat) (v7:Value) (wr:World):Prop:=Ku w.heap.size (fun _ u=>u=9) W wr∧LnI w.heap.size n v7 wr
def DcR (w:World) (e:Ending) (w':World):Prop:=(∃ s,e=.returned (.string s)∧s.size≤140737488355328)∧Below w.heap.size w w'
set_option maxHeartbeats 8000000 in
theorem directive_1 (N:Nat) (L:Nat) (w:World) (f:Nat→Int) (hL:ComsAt N w L 136) (hf:OpTab w 4 f) (hg:4 < w.heap.size) :
   Calls Tryz.prog 79 #[.pointer none,.pointer (some ⟨L,0,none⟩)] w (DcR w):=by
 unfold DcR
 obtain ⟨i0,hi0,hz0,hz1,hz2⟩:=info_parts Tryz.infoStr
 obtain ⟨cs,bv,sv,c1,c2,hb,h0,h1,hc1,hc2⟩:=hL
 obtain ⟨ba,bc,rfl⟩:=owns_any hc1.cm.1
 obtain ⟨sa,sc,rfl⟩:=owns_any hc2.cm.1
 have x0:w.cell? ⟨L,0,none⟩=some (.slice ba c1.length bc):=hb.cell 0 h0
 have x1:w.cell? ⟨L,1,none⟩=some (.slice sa c2.length sc):=hb.cell 1 h1
 have hlt:=hb.lt
 have hne:w.heap.size≠L:=by omega
 have HC1:=hide hc1
 have HC2:=hide hc2
 have HF:=hide hf
 clear hb h0 h1 hc1 hc2 hf
 go_enter Tryz.func79,Tryz.ntmps79
 go_wp2_with fail
 refine (comment_any _ _).mono ?_
 rintro e w1 ⟨rfl,rfl⟩
 go_wp2_with fail
 go_region_held3 (fun w'=>w'.cell? ⟨L,0,none⟩=some (.slice ba c1.length bc)∧w'.cell? ⟨L,1,none⟩=some (.slice sa c2.length sc)) (go_keep) (fail)
 all_goals go_wp2_with fail
 have hB:=(Blk.new w 124 #[Value.slice ba c1.length bc,Value.slice sa c2.length sc]).drew
 have hb:Below w.heap.size w (w.alloc (Obj.cells #[Value.slice ba c1.length bc,Value.slice sa c2.length sc] 124)).drew:=((Below.refl _ w).alloc (Nat.le_refl _) _).drew
 have hsW:(w.alloc (Obj.cells #[Value.slice ba c1.length bc,Value.slice sa c2.length sc] 124)).drew.heap.size=w.heap.size+1:=by simp
 generalize (w.alloc (Obj.cells #[Value.slice ba c1.length bc,Value.slice sa c2.length sc] 124)).drew=W at hB hb hsW ⊢
 have HB:=hide hB
 have HW:=hide hb
 clear hB hb x0 x1
 go_loopg [7,49] 2 (fun k v7 v49 wr=>∃ j:Nat,j+k=2∧v49=.int .i64 (j:Int)∧Hid (DcI N w W (j * 1000100) v7 wr))
 case atStart=>exact ⟨0,rfl,rfl,hide ⟨Ku.refl _ _ _,LnI.nil _ _ _⟩⟩
 case round =>
   obtain ⟨j,hj,rfl,HI⟩:=hrel
   rcases Nat.lt_or_ge j 2 with hlt2 | hge2
   · have hi0':(0:Int)≤(j:Int):=by omega
     have hi1':(j:Int) < 2:=by omega
     obtain ⟨ga,gcs,gc,hcell,hcm⟩:∃ ga gcs gc,wr.cell? ⟨w.heap.size,j,none⟩=some (.slice ga gcs.length gc)∧CmB N w (.slice ga gcs.length gc) gcs:=by
       have hB2:=HB.out.keptU HI.out.1 (by decide)
       rcases j with _ | j
       · exact ⟨ba,c1,bc,hB2.cell 0 rfl,HC1.out⟩
       · obtain rfl:j=0:=by omega
         exact ⟨sa,c2,sc,hB2.cell 1 rfl,HC2.out⟩
     have HCM:=hide hcm
     clear hcm
     go_wp2_with fail
     go_loopg [7,55] gcs.length (fun k v7 v55 wr=>∃ i:Nat,i+k=gcs.length∧v55=.int .i64 (i:Int)∧Hid (DcI N w W (j * 1000100+i) v7 wr))
     case atStart=>exact ⟨0,by omega,rfl,by rw [Nat.add_zero];exact HI⟩
     case round =>
       obtain ⟨i,hik,rfl,HJ⟩:=hrel
       clear HI hcell
       rcases Nat.lt_or_ge i gcs.length with hlt3 | hge3
       · have q0:(0:Int)≤(i:Int):=by omega
         have q1:(i:Int) < (gcs.length:Int):=by omega
         obtain ⟨x,hx⟩:∃ c,gcs[i]?=some c:=⟨_,List.getElem?_eq_getElem hlt3⟩
         have hbw:Below w.heap.size w wr:=HW.out.trans HJ.out.1.below
         have hrow:CmAt N wr (.slice ga gcs.length gc) gcs:=HCM.out.cm.keptU (S:=fun _ _=>False) (Ku.of_below hbw (Nat.le_refl _)) (fun _ _ h=>h)
         obtain ⟨m,hm⟩:∃ m,gcs.length=m+1:=⟨gcs.length - 1,by omega⟩
         obtain ⟨g0,c0,hg0⟩:∃ g c,(Value.slice ga gcs.length gc)=.slice (some ⟨g,0,none⟩) gcs.length c:=by
           have h2:=hrow.1
           rw [hm] at h2 ⊢
           exact owns_form h2
         simp only [Value.slice.injEq] at hg0
         obtain ⟨rfl,_,rfl⟩:=hg0
         obtain ⟨y0,y1,y2,y3,y4⟩:=hrow.cells rfl hx
         have hok:=hrow.2 x (List.mem_of_getElem? hx)
         have hasc:=txt_asc hok
         have hwr:w.heap.size≤wr.heap.size:=hbw.size
         have HOK:=hide (And.intro hasc (And.intro hbw (HF.out.below hbw hg)))
         have hgl:=HCM.out.len
         clear hrow hx hm hok hasc hbw
         go_wp2_with fail
         refine (hasPrefix_any _ _ _).mono ?_
         rintro e w1 ⟨rfl,rfl⟩
         obtain ⟨bp,hbp⟩:∃ b,b=Lib.hasPrefix (mkS x.txt).data.toList (⟨#[47,47]⟩:ByteArray).data.toList:=⟨_,rfl⟩
         rw [← hbp]
         clear hbp
         have hal:Ku w.heap.size (fun _ _=>False) wr (wr.alloc (Obj.cells #[.int .i64 x.l,.int .i64 x.c,.int .i64 x.b,.string (mkS x.txt),.bool x.suf] 194)):=(Ku.refl _ _ _).alloc hwr _
         have bC:=Blk.new wr 194 #[.int .i64 x.l,.int .i64 x.c,.int .i64 x.b,.string (mkS x.txt),.bool x.suf]
         have hW4:DcI N w W (j * 1000100+i) _ (wr.alloc (Obj.cells #[.int .i64 x.l,.int .i64 x.c,.int .i64 x.b,.string (mkS x.txt),.bool x.suf] 194)):=⟨HJ.out.1.trans (hal.mono (fun _ _ h=>h.elim)),HJ.out.2.kept hal (fun _ h=>h)⟩
         have hbw4:Below w.heap.size w (wr.alloc (Obj.cells #[.int .i64 x.l,.int .i64 x.c,.int .i64 x.b,.string (mkS x.txt),.bool x.suf] 194)):=HOK.out.2.1.trans hal.below
         have hf4:OpTab (wr.alloc (Obj.cells #[.int .i64 x.l,.int .i64 x.c,.int .i64 x.b,.string (mkS x.txt),.bool x.suf] 194)) 4 f:=HF.out.below hbw4 hg
         have hwr0:(wr.alloc (Obj.cells #[.int .i64 x.l,.int .i64 x.c,.int .i64 x.b,.string (mkS x.txt),.bool x.suf] 194)).heap.size=wr.heap.size+1:=by simp
         generalize wr.alloc (Obj.cells #[.int .i64 x.l,.int .i64 x.c,.int .i64 x.b,.string (mkS x.txt),.bool x.suf] 194)=W4 at bC hW4 hbw4 hf4 hwr0 ⊢
         have hc3:W4.cell? ⟨wr.heap.size,3,none⟩=some (.string (mkS x.txt)):=bC.cell 3 rfl
         have H4:=hide hW4
         have HB4:=hide (And.intro hbw4 hf4)
         have hg4:4 < W4.heap.size:=Nat.lt_of_lt_of_le hg hbw4.size
         clear hal bC hW4 hbw4 hf4 HJ y0 y1 y2 y3 y4
         rcases bp with _ | _
         · go_wp2_with fail
           go_roundg (gcs.length - (i+1))
           case measure=>omega
           case rel=>exact ⟨i+1,by omega,by first | rfl | simp,hide ⟨H4.out.1,H4.out.2.le (by omega)⟩⟩
         · go_wp2_with fail
           refine (trimPrefix_any _ _ _).mono ?_
           rintro e w1 ⟨rfl,rfl⟩
           have hta:=trimPre_asc (⟨#[47,47]⟩:ByteArray).data.toList HOK.out.1
           generalize mkS (Lib.trimPrefix (mkS x.txt).data.toList (⟨#[47,47]⟩:ByteArray).data.toList)=ts at hta ⊢
           have HTA:=hide hta
           clear hta
           go_wp2_with fail
           go_fit (strTrim_any ts _ f HTA.out HB4.out.2 hg4)
           rintro e w5 ⟨⟨s',rfl,hs',hs2⟩,hb5⟩
           have hk5:Ku w.heap.size (fun _ _=>False) W4 w5:=Ku.of_below hb5 (by omega)
           obtain ⟨ss,hss,hsl,hsb⟩:=H4.out.2.kept hk5 (fun _ h=>h)
           have hku5:=H4.out.1.trans (hk5.mono (fun _ _ h=>h.elim))
           obtain ⟨la,lc,rfl⟩:=owns_any hss
           have hw5:w.heap.size≤w5.heap.size:=by have:=hb5.size;omega
           have hm1:ss.length+1≤maxLen:=by unfold maxLen;omega
           have hm2:(ss.length+1) * 16≤140737488355328:=by omega
           have HSS:=hide (And.intro hss (And.intro hsl hsb))
           have HKU:=hide hku5
           have HM:=hide (And.intro hm1 (And.intro hm2 (And.intro hs'.1 hw5)))
           clear hss hsl hsb hku5 hk5 hb5 hm1 hm2 hs' hs2 H4 hc3
           go_wp2_with (at_builtin;refine wpList_append_lies _ rfl _ _ _ rfl w.heap.size 9 i0 _ 1 16 Tryz.und_strs hi0 hz0 hz1 hz2 rfl (by omega) _ _ _ (by rfl) (HSS.out.1.alloc _) ⟨w5.heap.size,0,none⟩ 1 1 [.string s'] (by rfl) (by rfl) (news_one _ _ _) (by simp [Value.oneCell']) (by omega) HM.out.1 HM.out.2.1 (by have:=HM.out.2.2.2;simp;omega) (w5.heap.size+1) (by simp) ?_;intro gg cap w6 hown3 hgrow3 hat3 hlt3;have k6:Ku w.heap.size (fun _ u=>u=9) w5 w6:=((Ku.refl _ _ _).alloc HM.out.2.2.2 _).trans (Ku.of_append (HSS.out.1.alloc _) hgrow3 (by have:=HM.out.2.2.2;simp;omega) (fun _ _=>rfl));have H6:=hide (show DcI N w W (j * 1000100+(i+1)) _ w6 from ⟨HKU.out.trans k6,ss++[s'],by simpa using hown3,by have:=HSS.out.2.1;simp;omega,fun y hy=>by
               rcases List.mem_append.1 hy with hy | hy
               · exact HSS.out.2.2 y hy
               · obtain rfl:=List.mem_singleton.1 hy
                 exact HM.out.2.2.1⟩);clear hown3 hgrow3 hat3 hlt3 k6)
           go_roundg (gcs.length - (i+1))
           case measure=>omega
           case rel=>exact ⟨i+1,by omega,by first | rfl | simp,H6⟩
       · obtain rfl:i=gcs.length:=by omega
         have q1:¬ ((gcs.length:Int) < (gcs.length:Int)):=by omega
         have hgl:=HCM.out.len
         go_wp2_with fail
         go_roundg (2 - (j+1))
         case measure=>omega
         case rel=>exact ⟨j+1,by omega,by first | rfl | simp,hide ⟨HJ.out.1,HJ.out.2.le (by omega)⟩⟩
   · obtain rfl:j=2:=by omega
     obtain ⟨ss,hss,hsl,hsb⟩:=HI.out.2
     have hbw:Below w.heap.size w wr:=HW.out.trans HI.out.1.below
     have HBW:=hide hbw
     clear HI hbw
     rcases Nat.eq_zero_or_pos ss.length with h0 | h0
     · obtain ⟨a,c,e⟩:=owns_any hss
       rw [h0] at e
       subst e
       clear hss
       go_wp2_with fail
       refine (Tryz.strings_Join_none _ _ _ _).mono ?_
       rintro e w1 ⟨rfl,rfl⟩
       go_wp2_with fail
       go_ret
       exact ⟨⟨_,rfl,by decide⟩,HBW.out⟩
     · obtain ⟨n,hn⟩:∃ n,ss.length=n+1:=⟨ss.length - 1,by omega⟩
       have hss':=hss
       rw [hn] at hss'
       obtain ⟨g,c,rfl⟩:=owns_form hss'
       rw [← hn] at hss hss'
       have hcap:ss.length≤c:=by
         rcases hss.2 with ⟨h,_⟩ | ⟨g',cap',cur,e,_,hh,r1,_⟩
         · cases h
         · simp only [Value.slice.injEq,Option.some.injEq,Addr.mk.injEq,and_true] at e
           omega
       have hjl:=join_len 1000000 (ss.map (·.data.toList)) (⟨#[10]⟩:ByteArray).data.toList (fun y hy=>by
         obtain ⟨z,hz,rfl⟩:=List.mem_map.1 hy
         have:=hsb z hz
         show (bsl z).length≤_
         rw [bsl_len];exact this)
       rw [List.length_map] at hjl
       have hjl2:(Lib.join (ss.map (·.data.toList)) (⟨#[10]⟩:ByteArray).data.toList).length≤140737488355328:=by
         refine Nat.le_trans hjl ?_
         have e1:(⟨#[10]⟩:ByteArray).data.toList.length=1:=rfl
         rw [e1]
         clear hjl hcap hss hss' hn hsb
         omega
       have hjn:=(Tryz.strings_Join g 0 c ss ⟨#[10]⟩ wr (fun q y hy=>by
         have hq:=(List.getElem?_eq_some_iff.1 hy).1
         rw [Nat.zero_add,hss.cellAt q (by omega),List.getElem?_map,hy];rfl) (hss.lt g rfl).2 (by omega) hcap hjl2)
       rw [hn] at hjn
       have HJN:=hide hjn
       have HJL:=hide hjl2
       clear hss hss' hsb hjl hn hjl2 hjn
       go_wp2_with fail
       go_fit HJN.out
       rintro e w1 ⟨rfl,hb1⟩
       have HB1:=hide (HBW.out.trans (hb1.mono HBW.out.size))
       clear hb1
       go_wp2_with fail
       go_ret
       refine ⟨⟨_,rfl,?_⟩,HB1.out⟩
       rw [arr_size]
       exact HJL.out
set_option maxHeartbeats 8000000 in
theorem directive_2 (N:Nat) (L X:Nat) (w:World) (f:Nat→Int) (hL:ComsAt N w L 136) (hf:OpTab w 4 f) (hg:4 < w.heap.size) (hn1:∀ v cs,w.cell? ⟨L,0,none⟩=some v→CmB N w v cs→cs.length≠0) :
   Calls Tryz.prog 79 #[.pointer (some ⟨X,0,none⟩),.pointer (some ⟨L,0,none⟩)] w (DcR w):=by
 unfold DcR
 obtain ⟨i0,hi0,hz0,hz1,hz2⟩:=info_parts Tryz.infoStr
 obtain ⟨cs,bv,sv,c1,c2,hb,h0,h1,hc1,hc2⟩:=hL
 obtain ⟨ba,bc,rfl⟩:=owns_any hc1.cm.1
 obtain ⟨sa,sc,rfl⟩:=owns_any hc2.cm.1
 have x0:w.cell? ⟨L,0,none⟩=some (.slice ba c1.length bc):=hb.cell 0 h0
 have x1:w.cell? ⟨L,1,none⟩=some (.slice sa c2.length sc):=hb.cell 1 h1
 have hlt:=hb.lt
 have hne:w.heap.size≠L:=by omega
 have z1:((c1.length:Int) == 0)=false:=by have:=hn1 _ _ x0 hc1;simp only [beq_eq_false_iff_ne];omega
 clear hn1
 have HC1:=hide hc1
 have HC2:=hide hc2
 have HF:=hide hf
 clear hb h0 h1 hc1 hc2 hf
 go_enter Tryz.func79,Tryz.ntmps79
 go_wp2_with fail
 refine (comment_any _ _).mono ?_
 rintro e w1 ⟨rfl,rfl⟩
 go_wp2_with fail
 go_region_held3 (fun w'=>w'.cell? ⟨L,0,none⟩=some (.slice ba c1.length bc)∧w'.cell? ⟨L,1,none⟩=some (.slice sa c2.length sc)) (go_keep) (fail)
 all_goals go_wp2_with fail
 have hB:=(Blk.new w 124 #[Value.slice ba c1.length bc,Value.slice sa c2.length sc]).drew
 have hb:Below w.heap.size w (w.alloc (Obj.cells #[Value.slice ba c1.length bc,Value.slice sa c2.length sc] 124)).drew:=((Below.refl _ w).alloc (Nat.le_refl _) _).drew
 have hsW:(w.alloc (Obj.cells #[Value.slice ba c1.length bc,Value.slice sa c2.length sc] 124)).drew.heap.size=w.heap.size+1:=by simp
 generalize (w.alloc (Obj.cells #[Value.slice ba c1.length bc,Value.slice sa c2.length sc] 124)).drew=W at hB hb hsW ⊢
 have HB:=hide hB
 have HW:=hide hb
 clear hB hb x0 x1
 go_loopg [7,49] 2 (fun k v7 v49 wr=>∃ j:Nat,j+k=2∧v49=.int .i64 (j:Int)∧Hid (DcI N w W (j * 1000100) v7 wr))
 case atStart=>exact ⟨0,rfl,rfl,hide ⟨Ku.refl _ _ _,LnI.nil _ _ _⟩⟩
 case round =>
   obtain ⟨j,hj,rfl,HI⟩:=hrel
   rcases Nat.lt_or_ge j 2 with hlt2 | hge2
   · have hi0':(0:Int)≤(j:Int):=by omega
     have hi1':(j:Int) < 2:=by omega
     obtain ⟨ga,gcs,gc,hcell,hcm⟩:∃ ga gcs gc,wr.cell? ⟨w.heap.size,j,none⟩=some (.slice ga gcs.length gc)∧CmB N w (.slice ga gcs.length gc) gcs:=by
       have hB2:=HB.out.keptU HI.out.1 (by decide)
       rcases j with _ | j
       · exact ⟨ba,c1,bc,hB2.cell 0 rfl,HC1.out⟩
       · obtain rfl:j=0:=by omega
         exact ⟨sa,c2,sc,hB2.cell 1 rfl,HC2.out⟩
     have HCM:=hide hcm
     clear hcm
     go_wp2_with fail
     go_loopg [7,55] gcs.length (fun k v7 v55 wr=>∃ i:Nat,i+k=gcs.length∧v55=.int .i64 (i:Int)∧Hid (DcI N w W (j * 1000100+i) v7 wr))
     case atStart=>exact ⟨0,by omega,rfl,by rw [Nat.add_zero];exact HI⟩
     case round =>
       obtain ⟨i,hik,rfl,HJ⟩:=hrel
       clear HI hcell
       rcases Nat.lt_or_ge i gcs.length with hlt3 | hge3
       · have q0:(0:Int)≤(i:Int):=by omega
         have q1:(i:Int) < (gcs.length:Int):=by omega
         obtain ⟨x,hx⟩:∃ c,gcs[i]?=some c:=⟨_,List.getElem?_eq_getElem hlt3⟩
         have hbw:Below w.heap.size w wr:=HW.out.trans HJ.out.1.below
         have hrow:CmAt N wr (.slice ga gcs.length gc) gcs:=HCM.out.cm.keptU (S:=fun _ _=>False) (Ku.of_below hbw (Nat.le_refl _)) (fun _ _ h=>h)
         obtain ⟨m,hm⟩:∃ m,gcs.length=m+1:=⟨gcs.length - 1,by omega⟩
         obtain ⟨g0,c0,hg0⟩:∃ g c,(Value.slice ga gcs.length gc)=.slice (some ⟨g,0,none⟩) gcs.length c:=by
           have h2:=hrow.1
           rw [hm] at h2 ⊢
           exact owns_form h2
         simp only [Value.slice.injEq] at hg0
         obtain ⟨rfl,_,rfl⟩:=hg0
         obtain ⟨y0,y1,y2,y3,y4⟩:=hrow.cells rfl hx
         have hok:=hrow.2 x (List.mem_of_getElem? hx)
         have hasc:=txt_asc hok
         have hwr:w.heap.size≤wr.heap.size:=hbw.size
         have HOK:=hide (And.intro hasc (And.intro hbw (HF.out.below hbw hg)))
         have hgl:=HCM.out.len
         clear hrow hx hm hok hasc hbw
         go_wp2_with fail
         refine (hasPrefix_any _ _ _).mono ?_
         rintro e w1 ⟨rfl,rfl⟩
         obtain ⟨bp,hbp⟩:∃ b,b=Lib.hasPrefix (mkS x.txt).data.toList (⟨#[47,47]⟩:ByteArray).data.toList:=⟨_,rfl⟩
         rw [← hbp]
         clear hbp
         have hal:Ku w.heap.size (fun _ _=>False) wr (wr.alloc (Obj.cells #[.int .i64 x.l,.int .i64 x.c,.int .i64 x.b,.string (mkS x.txt),.bool x.suf] 194)):=(Ku.refl _ _ _).alloc hwr _
         have bC:=Blk.new wr 194 #[.int .i64 x.l,.int .i64 x.c,.int .i64 x.b,.string (mkS x.txt),.bool x.suf]
         have hW4:DcI N w W (j * 1000100+i) _ (wr.alloc (Obj.cells #[.int .i64 x.l,.int .i64 x.c,.int .i64 x.b,.string (mkS x.txt),.bool x.suf] 194)):=⟨HJ.out.1.trans (hal.mono (fun _ _ h=>h.elim)),HJ.out.2.kept hal (fun _ h=>h)⟩
         have hbw4:Below w.heap.size w (wr.alloc (Obj.cells #[.int .i64 x.l,.int .i64 x.c,.int .i64 x.b,.string (mkS x.txt),.bool x.suf] 194)):=HOK.out.2.1.trans hal.below
         have hf4:OpTab (wr.alloc (Obj.cells #[.int .i64 x.l,.int .i64 x.c,.int .i64 x.b,.string (mkS x.txt),.bool x.suf] 194)) 4 f:=HF.out.below hbw4 hg
         have hwr0:(wr.alloc (Obj.cells #[.int .i64 x.l,.int .i64 x.c,.int .i64 x.b,.string (mkS x.txt),.bool x.suf] 194)).heap.size=wr.heap.size+1:=by simp
         generalize wr.alloc (Obj.cells #[.int .i64 x.l,.int .i64 x.c,.int .i64 x.b,.string (mkS x.txt),.bool x.suf] 194)=W4 at bC hW4 hbw4 hf4 hwr0 ⊢
         have hc3:W4.cell? ⟨wr.heap.size,3,none⟩=some (.string (mkS x.txt)):=bC.cell 3 rfl
         have H4:=hide hW4
         have HB4:=hide (And.intro hbw4 hf4)
         have hg4:4 < W4.heap.size:=Nat.lt_of_lt_of_le hg hbw4.size
         clear hal bC hW4 hbw4 hf4 HJ y0 y1 y2 y3 y4
         rcases bp with _ | _
         · go_wp2_with fail
           go_roundg (gcs.length - (i+1))
           case measure=>omega
           case rel=>exact ⟨i+1,by omega,by first | rfl | simp,hide ⟨H4.out.1,H4.out.2.le (by omega)⟩⟩
         · go_wp2_with fail
           refine (trimPrefix_any _ _ _).mono ?_
           rintro e w1 ⟨rfl,rfl⟩
           have hta:=trimPre_asc (⟨#[47,47]⟩:ByteArray).data.toList HOK.out.1
           generalize mkS (Lib.trimPrefix (mkS x.txt).data.toList (⟨#[47,47]⟩:ByteArray).data.toList)=ts at hta ⊢
           have HTA:=hide hta
           clear hta
           go_wp2_with fail
           go_fit (strTrim_any ts _ f HTA.out HB4.out.2 hg4)
           rintro e w5 ⟨⟨s',rfl,hs',hs2⟩,hb5⟩
           have hk5:Ku w.heap.size (fun _ _=>False) W4 w5:=Ku.of_below hb5 (by omega)
           obtain ⟨ss,hss,hsl,hsb⟩:=H4.out.2.kept hk5 (fun _ h=>h)
           have hku5:=H4.out.1.trans (hk5.mono (fun _ _ h=>h.elim))
           obtain ⟨la,lc,rfl⟩:=owns_any hss
           have hw5:w.heap.size≤w5.heap.size:=by have:=hb5.size;omega
           have hm1:ss.length+1≤maxLen:=by unfold maxLen;omega
           have hm2:(ss.length+1) * 16≤140737488355328:=by omega
           have HSS:=hide (And.intro hss (And.intro hsl hsb))
           have HKU:=hide hku5
           have HM:=hide (And.intro hm1 (And.intro hm2 (And.intro hs'.1 hw5)))
           clear hss hsl hsb hku5 hk5 hb5 hm1 hm2 hs' hs2 H4 hc3
           go_wp2_with (at_builtin;refine wpList_append_lies _ rfl _ _ _ rfl w.heap.size 9 i0 _ 1 16 Tryz.und_strs hi0 hz0 hz1 hz2 rfl (by omega) _ _ _ (by rfl) (HSS.out.1.alloc _) ⟨w5.heap.size,0,none⟩ 1 1 [.string s'] (by rfl) (by rfl) (news_one _ _ _) (by simp [Value.oneCell']) (by omega) HM.out.1 HM.out.2.1 (by have:=HM.out.2.2.2;simp;omega) (w5.heap.size+1) (by simp) ?_;intro gg cap w6 hown3 hgrow3 hat3 hlt3;have k6:Ku w.heap.size (fun _ u=>u=9) w5 w6:=((Ku.refl _ _ _).alloc HM.out.2.2.2 _).trans (Ku.of_append (HSS.out.1.alloc _) hgrow3 (by have:=HM.out.2.2.2;simp;omega) (fun _ _=>rfl));have H6:=hide (show DcI N w W (j * 1000100+(i+1)) _ w6 from ⟨HKU.out.trans k6,ss++[s'],by simpa using hown3,by have:=HSS.out.2.1;simp;omega,fun y hy=>by
               rcases List.mem_append.1 hy with hy | hy
               · exact HSS.out.2.2 y hy
               · obtain rfl:=List.mem_singleton.1 hy
                 exact HM.out.2.2.1⟩);clear hown3 hgrow3 hat3 hlt3 k6)
           go_roundg (gcs.length - (i+1))
           case measure=>omega
           case rel=>exact ⟨i+1,by omega,by first | rfl | simp,H6⟩
       · obtain rfl:i=gcs.length:=by omega
         have q1:¬ ((gcs.length:Int) < (gcs.length:Int)):=by omega
         have hgl:=HCM.out.len
         go_wp2_with fail
         go_roundg (2 - (j+1))
         case measure=>omega
         case rel=>exact ⟨j+1,by omega,by first | rfl | simp,hide ⟨HJ.out.1,HJ.out.2.le (by omega)⟩⟩
   · obtain rfl:j=2:=by omega
     obtain ⟨ss,hss,hsl,hsb⟩:=HI.out.2
     have hbw:Below w.heap.size w wr:=HW.out.trans HI.out.1.below
     have HBW:=hide hbw
     clear HI hbw
     rcases Nat.eq_zero_or_pos ss.length with h0 | h0
     · obtain ⟨a,c,e⟩:=owns_any hss
       rw [h0] at e
       subst e
       clear hss
       go_wp2_with fail
       refine (Tryz.strings_Join_none _ _ _ _).mono ?_
       rintro e w1 ⟨rfl,rfl⟩
       go_wp2_with fail
       go_ret
       exact ⟨⟨_,rfl,by decide⟩,HBW.out⟩
     · obtain ⟨n,hn⟩:∃ n,ss.length=n+1:=⟨ss.length - 1,by omega⟩
       have hss':=hss
       rw [hn] at hss'
       obtain ⟨g,c,rfl⟩:=owns_form hss'
       rw [← hn] at hss hss'
       have hcap:ss.length≤c:=by
         rcases hss.2 with ⟨h,_⟩ | ⟨g',cap',cur,e,_,hh,r1,_⟩
         · cases h
         · simp only [Value.slice.injEq,Option.some.injEq,Addr.mk.injEq,and_true] at e
           omega
       have hjl:=join_len 1000000 (ss.map (·.data.toList)) (⟨#[10]⟩:ByteArray).data.toList (fun y hy=>by
         obtain ⟨z,hz,rfl⟩:=List.mem_map.1 hy
         have:=hsb z hz
         show (bsl z).length≤_
         rw [bsl_len];exact this)
       rw [List.length_map] at hjl
       have hjl2:(Lib.join (ss.map (·.data.toList)) (⟨#[10]⟩:ByteArray).data.toList).length≤140737488355328:=by
         refine Nat.le_trans hjl ?_
         have e1:(⟨#[10]⟩:ByteArray).data.toList.length=1:=rfl
         rw [e1]
         clear hjl hcap hss hss' hn hsb
         omega
       have hjn:=(Tryz.strings_Join g 0 c ss ⟨#[10]⟩ wr (fun q y hy=>by
         have hq:=(List.getElem?_eq_some_iff.1 hy).1
         rw [Nat.zero_add,hss.cellAt q (by omega),List.getElem?_map,hy];rfl) (hss.lt g rfl).2 (by omega) hcap hjl2)
       rw [hn] at hjn
       have HJN:=hide hjn
       have HJL:=hide hjl2
       clear hss hss' hsb hjl hn hjl2 hjn
       go_wp2_with fail
       go_fit HJN.out
       rintro e w1 ⟨rfl,hb1⟩
       have HB1:=hide (HBW.out.trans (hb1.mono HBW.out.size))
       clear hb1
       go_wp2_with fail
       go_ret
       refine ⟨⟨_,rfl,?_⟩,HB1.out⟩
       rw [arr_size]
       exact HJL.out
set_option maxHeartbeats 8000000 in
theorem directive_3 (N:Nat) (L X:Nat) (w:World) (f:Nat→Int) (hL:ComsAt N w L 136) (hf:OpTab w 4 f) (hg:4 < w.heap.size) (hn1:∀ v cs,w.cell? ⟨L,0,none⟩=some v→CmB N w v cs→cs.length=0) (hn2:∀ v cs,w.cell? ⟨L,1,none⟩=some v→CmB N w v cs→cs.length≠0) :
   Calls Tryz.prog 79 #[.pointer (some ⟨X,0,none⟩),.pointer (some ⟨L,0,none⟩)] w (DcR w):=by
 unfold DcR
 obtain ⟨i0,hi0,hz0,hz1,hz2⟩:=info_parts Tryz.infoStr
 obtain ⟨cs,bv,sv,c1,c2,hb,h0,h1,hc1,hc2⟩:=hL
 obtain ⟨ba,bc,rfl⟩:=owns_any hc1.cm.1
 obtain ⟨sa,sc,rfl⟩:=owns_any hc2.cm.1
 have x0:w.cell? ⟨L,0,none⟩=some (.slice ba c1.length bc):=hb.cell 0 h0
 have x1:w.cell? ⟨L,1,none⟩=some (.slice sa c2.length sc):=hb.cell 1 h1
 have hlt:=hb.lt
 have hne:w.heap.size≠L:=by omega
 have z2:((c2.length:Int) == 0)=false:=by have:=hn2 _ _ x1 hc2;simp only [beq_eq_false_iff_ne];omega
 have z1:((c1.length:Int) == 0)=true:=by rw [hn1 _ _ x0 hc1];rfl
 clear hn1 hn2
 have HC1:=hide hc1
 have HC2:=hide hc2
 have HF:=hide hf
 clear hb h0 h1 hc1 hc2 hf
 go_enter Tryz.func79,Tryz.ntmps79
 go_wp2_with fail
 refine (comment_any _ _).mono ?_
 rintro e w1 ⟨rfl,rfl⟩
 go_wp2_with fail
 go_region_held3 (fun w'=>w'.cell? ⟨L,0,none⟩=some (.slice ba c1.length bc)∧w'.cell? ⟨L,1,none⟩=some (.slice sa c2.length sc)) (go_keep) (fail)
 all_goals go_wp2_with fail
 have hB:=(Blk.new w 124 #[Value.slice ba c1.length bc,Value.slice sa c2.length sc]).drew
 have hb:Below w.heap.size w (w.alloc (Obj.cells #[Value.slice ba c1.length bc,Value.slice sa c2.length sc] 124)).drew:=((Below.refl _ w).alloc (Nat.le_refl _) _).drew
 have hsW:(w.alloc (Obj.cells #[Value.slice ba c1.length bc,Value.slice sa c2.length sc] 124)).drew.heap.size=w.heap.size+1:=by simp
 generalize (w.alloc (Obj.cells #[Value.slice ba c1.length bc,Value.slice sa c2.length sc] 124)).drew=W at hB hb hsW ⊢
 have HB:=hide hB
 have HW:=hide hb
 clear hB hb x0 x1
 go_loopg [7,49] 2 (fun k v7 v49 wr=>∃ j:Nat,j+k=2∧v49=.int .i64 (j:Int)∧Hid (DcI N w W (j * 1000100) v7 wr))
 case atStart=>exact ⟨0,rfl,rfl,hide ⟨Ku.refl _ _ _,LnI.nil _ _ _⟩⟩
 case round =>
   obtain ⟨j,hj,rfl,HI⟩:=hrel
   rcases Nat.lt_or_ge j 2 with hlt2 | hge2
   · have hi0':(0:Int)≤(j:Int):=by omega
     have hi1':(j:Int) < 2:=by omega
     obtain ⟨ga,gcs,gc,hcell,hcm⟩:∃ ga gcs gc,wr.cell? ⟨w.heap.size,j,none⟩=some (.slice ga gcs.length gc)∧CmB N w (.slice ga gcs.length gc) gcs:=by
       have hB2:=HB.out.keptU HI.out.1 (by decide)
       rcases j with _ | j
       · exact ⟨ba,c1,bc,hB2.cell 0 rfl,HC1.out⟩
       · obtain rfl:j=0:=by omega
         exact ⟨sa,c2,sc,hB2.cell 1 rfl,HC2.out⟩
     have HCM:=hide hcm
     clear hcm
     go_wp2_with fail
     go_loopg [7,55] gcs.length (fun k v7 v55 wr=>∃ i:Nat,i+k=gcs.length∧v55=.int .i64 (i:Int)∧Hid (DcI N w W (j * 1000100+i) v7 wr))
     case atStart=>exact ⟨0,by omega,rfl,by rw [Nat.add_zero];exact HI⟩
     case round =>
       obtain ⟨i,hik,rfl,HJ⟩:=hrel
       clear HI hcell
       rcases Nat.lt_or_ge i gcs.length with hlt3 | hge3
       · have q0:(0:Int)≤(i:Int):=by omega
         have q1:(i:Int) < (gcs.length:Int):=by omega
         obtain ⟨x,hx⟩:∃ c,gcs[i]?=some c:=⟨_,List.getElem?_eq_getElem hlt3⟩
         have hbw:Below w.heap.size w wr:=HW.out.trans HJ.out.1.below
         have hrow:CmAt N wr (.slice ga gcs.length gc) gcs:=HCM.out.cm.keptU (S:=fun _ _=>False) (Ku.of_below hbw (Nat.le_refl _)) (fun _ _ h=>h)
         obtain ⟨m,hm⟩:∃ m,gcs.length=m+1:=⟨gcs.length - 1,by omega⟩
         obtain ⟨g0,c0,hg0⟩:∃ g c,(Value.slice ga gcs.length gc)=.slice (some ⟨g,0,none⟩) gcs.length c:=by
           have h2:=hrow.1
           rw [hm] at h2 ⊢
           exact owns_form h2
         simp only [Value.slice.injEq] at hg0
         obtain ⟨rfl,_,rfl⟩:=hg0
         obtain ⟨y0,y1,y2,y3,y4⟩:=hrow.cells rfl hx
         have hok:=hrow.2 x (List.mem_of_getElem? hx)
         have hasc:=txt_asc hok
         have hwr:w.heap.size≤wr.heap.size:=hbw.size
         have HOK:=hide (And.intro hasc (And.intro hbw (HF.out.below hbw hg)))
         have hgl:=HCM.out.len
         clear hrow hx hm hok hasc hbw
         go_wp2_with fail
         refine (hasPrefix_any _ _ _).mono ?_
         rintro e w1 ⟨rfl,rfl⟩
         obtain ⟨bp,hbp⟩:∃ b,b=Lib.hasPrefix (mkS x.txt).data.toList (⟨#[47,47]⟩:ByteArray).data.toList:=⟨_,rfl⟩
         rw [← hbp]
         clear hbp
         have hal:Ku w.heap.size (fun _ _=>False) wr (wr.alloc (Obj.cells #[.int .i64 x.l,.int .i64 x.c,.int .i64 x.b,.string (mkS x.txt),.bool x.suf] 194)):=(Ku.refl _ _ _).alloc hwr _
         have bC:=Blk.new wr 194 #[.int .i64 x.l,.int .i64 x.c,.int .i64 x.b,.string (mkS x.txt),.bool x.suf]
         have hW4:DcI N w W (j * 1000100+i) _ (wr.alloc (Obj.cells #[.int .i64 x.l,.int .i64 x.c,.int .i64 x.b,.string (mkS x.txt),.bool x.suf] 194)):=⟨HJ.out.1.trans (hal.mono (fun _ _ h=>h.elim)),HJ.out.2.kept hal (fun _ h=>h)⟩
         have hbw4:Below w.heap.size w (wr.alloc (Obj.cells #[.int .i64 x.l,.int .i64 x.c,.int .i64 x.b,.string (mkS x.txt),.bool x.suf] 194)):=HOK.out.2.1.trans hal.below
         have hf4:OpTab (wr.alloc (Obj.cells #[.int .i64 x.l,.int .i64 x.c,.int .i64 x.b,.string (mkS x.txt),.bool x.suf] 194)) 4 f:=HF.out.below hbw4 hg
         have hwr0:(wr.alloc (Obj.cells #[.int .i64 x.l,.int .i64 x.c,.int .i64 x.b,.string (mkS x.txt),.bool x.suf] 194)).heap.size=wr.heap.size+1:=by simp
         generalize wr.alloc (Obj.cells #[.int .i64 x.l,.int .i64 x.c,.int .i64 x.b,.string (mkS x.txt),.bool x.suf] 194)=W4 at bC hW4 hbw4 hf4 hwr0 ⊢
         have hc3:W4.cell? ⟨wr.heap.size,3,none⟩=some (.string (mkS x.txt)):=bC.cell 3 rfl
         have H4:=hide hW4
         have HB4:=hide (And.intro hbw4 hf4)
         have hg4:4 < W4.heap.size:=Nat.lt_of_lt_of_le hg hbw4.size
         clear hal bC hW4 hbw4 hf4 HJ y0 y1 y2 y3 y4
         rcases bp with _ | _
         · go_wp2_with fail
           go_roundg (gcs.length - (i+1))
           case measure=>omega
           case rel=>exact ⟨i+1,by omega,by first | rfl | simp,hide ⟨H4.out.1,H4.out.2.le (by omega)⟩⟩
         · go_wp2_with fail
           refine (trimPrefix_any _ _ _).mono ?_
           rintro e w1 ⟨rfl,rfl⟩
           have hta:=trimPre_asc (⟨#[47,47]⟩:ByteArray).data.toList HOK.out.1
           generalize mkS (Lib.trimPrefix (mkS x.txt).data.toList (⟨#[47,47]⟩:ByteArray).data.toList)=ts at hta ⊢
           have HTA:=hide hta
           clear hta
           go_wp2_with fail
           go_fit (strTrim_any ts _ f HTA.out HB4.out.2 hg4)
           rintro e w5 ⟨⟨s',rfl,hs',hs2⟩,hb5⟩
           have hk5:Ku w.heap.size (fun _ _=>False) W4 w5:=Ku.of_below hb5 (by omega)
           obtain ⟨ss,hss,hsl,hsb⟩:=H4.out.2.kept hk5 (fun _ h=>h)
           have hku5:=H4.out.1.trans (hk5.mono (fun _ _ h=>h.elim))
           obtain ⟨la,lc,rfl⟩:=owns_any hss
           have hw5:w.heap.size≤w5.heap.size:=by have:=hb5.size;omega
           have hm1:ss.length+1≤maxLen:=by unfold maxLen;omega
           have hm2:(ss.length+1) * 16≤140737488355328:=by omega
           have HSS:=hide (And.intro hss (And.intro hsl hsb))
           have HKU:=hide hku5
           have HM:=hide (And.intro hm1 (And.intro hm2 (And.intro hs'.1 hw5)))
           clear hss hsl hsb hku5 hk5 hb5 hm1 hm2 hs' hs2 H4 hc3
           go_wp2_with (at_builtin;refine wpList_append_lies _ rfl _ _ _ rfl w.heap.size 9 i0 _ 1 16 Tryz.und_strs hi0 hz0 hz1 hz2 rfl (by omega) _ _ _ (by rfl) (HSS.out.1.alloc _) ⟨w5.heap.size,0,none⟩ 1 1 [.string s'] (by rfl) (by rfl) (news_one _ _ _) (by simp [Value.oneCell']) (by omega) HM.out.1 HM.out.2.1 (by have:=HM.out.2.2.2;simp;omega) (w5.heap.size+1) (by simp) ?_;intro gg cap w6 hown3 hgrow3 hat3 hlt3;have k6:Ku w.heap.size (fun _ u=>u=9) w5 w6:=((Ku.refl _ _ _).alloc HM.out.2.2.2 _).trans (Ku.of_append (HSS.out.1.alloc _) hgrow3 (by have:=HM.out.2.2.2;simp;omega) (fun _ _=>rfl));have H6:=hide (show DcI N w W (j * 1000100+(i+1)) _ w6 from ⟨HKU.out.trans k6,ss++[s'],by simpa using hown3,by have:=HSS.out.2.1;simp;omega,fun y hy=>by
               rcases List.mem_append.1 hy with hy | hy
               · exact HSS.out.2.2 y hy
               · obtain rfl:=List.mem_singleton.1 hy
                 exact HM.out.2.2.1⟩);clear hown3 hgrow3 hat3 hlt3 k6)
           go_roundg (gcs.length - (i+1))
           case measure=>omega
           case rel=>exact ⟨i+1,by omega,by first | rfl | simp,H6⟩
       · obtain rfl:i=gcs.length:=by omega
         have q1:¬ ((gcs.length:Int) < (gcs.length:Int)):=by omega
         have hgl:=HCM.out.len
         go_wp2_with fail
         go_roundg (2 - (j+1))
         case measure=>omega
         case rel=>exact ⟨j+1,by omega,by first | rfl | simp,hide ⟨HJ.out.1,HJ.out.2.le (by omega)⟩⟩
   · obtain rfl:j=2:=by omega
     obtain ⟨ss,hss,hsl,hsb⟩:=HI.out.2
     have hbw:Below w.heap.size w wr:=HW.out.trans HI.out.1.below
     have HBW:=hide hbw
     clear HI hbw
     rcases Nat.eq_zero_or_pos ss.length with h0 | h0
     · obtain ⟨a,c,e⟩:=owns_any hss
       rw [h0] at e
       subst e
       clear hss
       go_wp2_with fail
       refine (Tryz.strings_Join_none _ _ _ _).mono ?_
       rintro e w1 ⟨rfl,rfl⟩
       go_wp2_with fail
       go_ret
       exact ⟨⟨_,rfl,by decide⟩,HBW.out⟩
     · obtain ⟨n,hn⟩:∃ n,ss.length=n+1:=⟨ss.length - 1,by omega⟩
       have hss':=hss
       rw [hn] at hss'
       obtain ⟨g,c,rfl⟩:=owns_form hss'
       rw [← hn] at hss hss'
       have hcap:ss.length≤c:=by
         rcases hss.2 with ⟨h,_⟩ | ⟨g',cap',cur,e,_,hh,r1,_⟩
         · cases h
         · simp only [Value.slice.injEq,Option.some.injEq,Addr.mk.injEq,and_true] at e
           omega
       have hjl:=join_len 1000000 (ss.map (·.data.toList)) (⟨#[10]⟩:ByteArray).data.toList (fun y hy=>by
         obtain ⟨z,hz,rfl⟩:=List.mem_map.1 hy
         have:=hsb z hz
         show (bsl z).length≤_
         rw [bsl_len];exact this)
       rw [List.length_map] at hjl
       have hjl2:(Lib.join (ss.map (·.data.toList)) (⟨#[10]⟩:ByteArray).data.toList).length≤140737488355328:=by
         refine Nat.le_trans hjl ?_
         have e1:(⟨#[10]⟩:ByteArray).data.toList.length=1:=rfl
         rw [e1]
         clear hjl hcap hss hss' hn hsb
         omega
       have hjn:=(Tryz.strings_Join g 0 c ss ⟨#[10]⟩ wr (fun q y hy=>by
         have hq:=(List.getElem?_eq_some_iff.1 hy).1
         rw [Nat.zero_add,hss.cellAt q (by omega),List.getElem?_map,hy];rfl) (hss.lt g rfl).2 (by omega) hcap hjl2)
       rw [hn] at hjn
       have HJN:=hide hjn
       have HJL:=hide hjl2
       clear hss hss' hsb hjl hn hjl2 hjn
       go_wp2_with fail
       go_fit HJN.out
       rintro e w1 ⟨rfl,hb1⟩
       have HB1:=hide (HBW.out.trans (hb1.mono HBW.out.size))
       clear hb1
       go_wp2_with fail
       go_ret
       refine ⟨⟨_,rfl,?_⟩,HB1.out⟩
       rw [arr_size]
       exact HJL.out
set_option maxHeartbeats 8000000 in
theorem directive_4 (N:Nat) (L X:Nat) (w:World) (f:Nat→Int) (hL:ComsAt N w L 136) (hX:ComsAt N w X 143) (hf:OpTab w 4 f) (hg:4 < w.heap.size) (hn1:∀ v cs,w.cell? ⟨L,0,none⟩=some v→CmB N w v cs→cs.length=0) (hn2:∀ v cs,w.cell? ⟨L,1,none⟩=some v→CmB N w v cs→cs.length=0) :
   Calls Tryz.prog 79 #[.pointer (some ⟨X,0,none⟩),.pointer (some ⟨L,0,none⟩)] w (DcR w):=by
 unfold DcR
 obtain ⟨i0,hi0,hz0,hz1,hz2⟩:=info_parts Tryz.infoStr
 obtain ⟨lcs,lbv,lsv,lc1,lc2,lhb,lh0,lh1,lhc1,lhc2⟩:=hL
 obtain ⟨lba,lbc,rfl⟩:=owns_any lhc1.cm.1
 obtain ⟨lsa,lsc,rfl⟩:=owns_any lhc2.cm.1
 have lx0:w.cell? ⟨L,0,none⟩=some (.slice lba lc1.length lbc):=lhb.cell 0 lh0
 have lx1:w.cell? ⟨L,1,none⟩=some (.slice lsa lc2.length lsc):=lhb.cell 1 lh1
 have lhlt:=lhb.lt
 have lhne:w.heap.size≠L:=by omega
 have lz1:=hn1 _ _ lx0 lhc1
 have lz2:=hn2 _ _ lx1 lhc2
 rw [lz1] at lx0
 rw [lz2] at lx1
 clear lhb lh0 lh1 lhc1 lhc2 lz1 lz2 hn1 hn2
 obtain ⟨cs,bv,sv,c1,c2,hb,h0,h1,hc1,hc2⟩:=hX
 obtain ⟨ba,bc,rfl⟩:=owns_any hc1.cm.1
 obtain ⟨sa,sc,rfl⟩:=owns_any hc2.cm.1
 have x0:w.cell? ⟨X,0,none⟩=some (.slice ba c1.length bc):=hb.cell 0 h0
 have x1:w.cell? ⟨X,1,none⟩=some (.slice sa c2.length sc):=hb.cell 1 h1
 have hlt:=hb.lt
 have hne:w.heap.size≠X:=by omega
 have HC1:=hide hc1
 have HC2:=hide hc2
 have HF:=hide hf
 clear hb h0 h1 hc1 hc2 hf
 go_enter Tryz.func79,Tryz.ntmps79
 go_wp2_with fail
 refine (comment_any _ _).mono ?_
 rintro e w1 ⟨rfl,rfl⟩
 go_wp2_with fail
 refine (comment_any _ _).mono ?_
 rintro e w1 ⟨rfl,rfl⟩
 go_wp2_with fail
 go_region_held3 (fun w'=>w'.cell? ⟨X,0,none⟩=some (.slice ba c1.length bc)∧w'.cell? ⟨X,1,none⟩=some (.slice sa c2.length sc)) (go_keep) (fail)
 all_goals go_wp2_with fail
 have hB:=(Blk.new w 124 #[Value.slice ba c1.length bc,Value.slice sa c2.length sc]).drew
 have hb:Below w.heap.size w (w.alloc (Obj.cells #[Value.slice ba c1.length bc,Value.slice sa c2.length sc] 124)).drew:=((Below.refl _ w).alloc (Nat.le_refl _) _).drew
 have hsW:(w.alloc (Obj.cells #[Value.slice ba c1.length bc,Value.slice sa c2.length sc] 124)).drew.heap.size=w.heap.size+1:=by simp
 generalize (w.alloc (Obj.cells #[Value.slice ba c1.length bc,Value.slice sa c2.length sc] 124)).drew=W at hB hb hsW ⊢
 have HB:=hide hB
 have HW:=hide hb
 clear hB hb x0 x1
 go_loopg [7,49] 2 (fun k v7 v49 wr=>∃ j:Nat,j+k=2∧v49=.int .i64 (j:Int)∧Hid (DcI N w W (j * 1000100) v7 wr))
 case atStart=>exact ⟨0,rfl,rfl,hide ⟨Ku.refl _ _ _,LnI.nil _ _ _⟩⟩
 case round =>
   obtain ⟨j,hj,rfl,HI⟩:=hrel
   rcases Nat.lt_or_ge j 2 with hlt2 | hge2
   · have hi0':(0:Int)≤(j:Int):=by omega
     have hi1':(j:Int) < 2:=by omega
     obtain ⟨ga,gcs,gc,hcell,hcm⟩:∃ ga gcs gc,wr.cell? ⟨w.heap.size,j,none⟩=some (.slice ga gcs.length gc)∧CmB N w (.slice ga gcs.length gc) gcs:=by
       have hB2:=HB.out.keptU HI.out.1 (by decide)
       rcases j with _ | j
       · exact ⟨ba,c1,bc,hB2.cell 0 rfl,HC1.out⟩
       · obtain rfl:j=0:=by omega
         exact ⟨sa,c2,sc,hB2.cell 1 rfl,HC2.out⟩
     have HCM:=hide hcm
     clear hcm
     go_wp2_with fail
     go_loopg [7,55] gcs.length (fun k v7 v55 wr=>∃ i:Nat,i+k=gcs.length∧v55=.int .i64 (i:Int)∧Hid (DcI N w W (j * 1000100+i) v7 wr))
     case atStart=>exact ⟨0,by omega,rfl,by rw [Nat.add_zero];exact HI⟩
     case round =>
       obtain ⟨i,hik,rfl,HJ⟩:=hrel
       clear HI hcell
       rcases Nat.lt_or_ge i gcs.length with hlt3 | hge3
       · have q0:(0:Int)≤(i:Int):=by omega
         have q1:(i:Int) < (gcs.length:Int):=by omega
         obtain ⟨x,hx⟩:∃ c,gcs[i]?=some c:=⟨_,List.getElem?_eq_getElem hlt3⟩
         have hbw:Below w.heap.size w wr:=HW.out.trans HJ.out.1.below
         have hrow:CmAt N wr (.slice ga gcs.length gc) gcs:=HCM.out.cm.keptU (S:=fun _ _=>False) (Ku.of_below hbw (Nat.le_refl _)) (fun _ _ h=>h)
         obtain ⟨m,hm⟩:∃ m,gcs.length=m+1:=⟨gcs.length - 1,by omega⟩
         obtain ⟨g0,c0,hg0⟩:∃ g c,(Value.slice ga gcs.length gc)=.slice (some ⟨g,0,none⟩) gcs.length c:=by
           have h2:=hrow.1
           rw [hm] at h2 ⊢
           exact owns_form h2
         simp only [Value.slice.injEq] at hg0
         obtain ⟨rfl,_,rfl⟩:=hg0
         obtain ⟨y0,y1,y2,y3,y4⟩:=hrow.cells rfl hx
         have hok:=hrow.2 x (List.mem_of_getElem? hx)
         have hasc:=txt_asc hok
         have hwr:w.heap.size≤wr.heap.size:=hbw.size
         have HOK:=hide (And.intro hasc (And.intro hbw (HF.out.below hbw hg)))
         have hgl:=HCM.out.len
         clear hrow hx hm hok hasc hbw
         go_wp2_with fail
         refine (hasPrefix_any _ _ _).mono ?_
         rintro e w1 ⟨rfl,rfl⟩
         obtain ⟨bp,hbp⟩:∃ b,b=Lib.hasPrefix (mkS x.txt).data.toList (⟨#[47,47]⟩:ByteArray).data.toList:=⟨_,rfl⟩
         rw [← hbp]
         clear hbp
         have hal:Ku w.heap.size (fun _ _=>False) wr (wr.alloc (Obj.cells #[.int .i64 x.l,.int .i64 x.c,.int .i64 x.b,.string (mkS x.txt),.bool x.suf] 194)):=(Ku.refl _ _ _).alloc hwr _
         have bC:=Blk.new wr 194 #[.int .i64 x.l,.int .i64 x.c,.int .i64 x.b,.string (mkS x.txt),.bool x.suf]
         have hW4:DcI N w W (j * 1000100+i) _ (wr.alloc (Obj.cells #[.int .i64 x.l,.int .i64 x.c,.int .i64 x.b,.string (mkS x.txt),.bool x.suf] 194)):=⟨HJ.out.1.trans (hal.mono (fun _ _ h=>h.elim)),HJ.out.2.kept hal (fun _ h=>h)⟩
         have hbw4:Below w.heap.size w (wr.alloc (Obj.cells #[.int .i64 x.l,.int .i64 x.c,.int .i64 x.b,.string (mkS x.txt),.bool x.suf] 194)):=HOK.out.2.1.trans hal.below
         have hf4:OpTab (wr.alloc (Obj.cells #[.int .i64 x.l,.int .i64 x.c,.int .i64 x.b,.string (mkS x.txt),.bool x.suf] 194)) 4 f:=HF.out.below hbw4 hg
         have hwr0:(wr.alloc (Obj.cells #[.int .i64 x.l,.int .i64 x.c,.int .i64 x.b,.string (mkS x.txt),.bool x.suf] 194)).heap.size=wr.heap.size+1:=by simp
         generalize wr.alloc (Obj.cells #[.int .i64 x.l,.int .i64 x.c,.int .i64 x.b,.string (mkS x.txt),.bool x.suf] 194)=W4 at bC hW4 hbw4 hf4 hwr0 ⊢
         have hc3:W4.cell? ⟨wr.heap.size,3,none⟩=some (.string (mkS x.txt)):=bC.cell 3 rfl
         have H4:=hide hW4
         have HB4:=hide (And.intro hbw4 hf4)
         have hg4:4 < W4.heap.size:=Nat.lt_of_lt_of_le hg hbw4.size
         clear hal bC hW4 hbw4 hf4 HJ y0 y1 y2 y3 y4
         rcases bp with _ | _
         · go_wp2_with fail
           go_roundg (gcs.length - (i+1))
           case measure=>omega
           case rel=>exact ⟨i+1,by omega,by first | rfl | simp,hide ⟨H4.out.1,H4.out.2.le (by omega)⟩⟩
         · go_wp2_with fail
           refine (trimPrefix_any _ _ _).mono ?_
           rintro e w1 ⟨rfl,rfl⟩
           have hta:=trimPre_asc (⟨#[47,47]⟩:ByteArray).data.toList HOK.out.1
           generalize mkS (Lib.trimPrefix (mkS x.txt).data.toList (⟨#[47,47]⟩:ByteArray).data.toList)=ts at hta ⊢
           have HTA:=hide hta
           clear hta
           go_wp2_with fail
           go_fit (strTrim_any ts _ f HTA.out HB4.out.2 hg4)
           rintro e w5 ⟨⟨s',rfl,hs',hs2⟩,hb5⟩
           have hk5:Ku w.heap.size (fun _ _=>False) W4 w5:=Ku.of_below hb5 (by omega)
           obtain ⟨ss,hss,hsl,hsb⟩:=H4.out.2.kept hk5 (fun _ h=>h)
           have hku5:=H4.out.1.trans (hk5.mono (fun _ _ h=>h.elim))
           obtain ⟨la,lc,rfl⟩:=owns_any hss
           have hw5:w.heap.size≤w5.heap.size:=by have:=hb5.size;omega
           have hm1:ss.length+1≤maxLen:=by unfold maxLen;omega
           have hm2:(ss.length+1) * 16≤140737488355328:=by omega
           have HSS:=hide (And.intro hss (And.intro hsl hsb))
           have HKU:=hide hku5
           have HM:=hide (And.intro hm1 (And.intro hm2 (And.intro hs'.1 hw5)))
           clear hss hsl hsb hku5 hk5 hb5 hm1 hm2 hs' hs2 H4 hc3
           go_wp2_with (at_builtin;refine wpList_append_lies _ rfl _ _ _ rfl w.heap.size 9 i0 _ 1 16 Tryz.und_strs hi0 hz0 hz1 hz2 rfl (by omega) _ _ _ (by rfl) (HSS.out.1.alloc _) ⟨w5.heap.size,0,none⟩ 1 1 [.string s'] (by rfl) (by rfl) (news_one _ _ _) (by simp [Value.oneCell']) (by omega) HM.out.1 HM.out.2.1 (by have:=HM.out.2.2.2;simp;omega) (w5.heap.size+1) (by simp) ?_;intro gg cap w6 hown3 hgrow3 hat3 hlt3;have k6:Ku w.heap.size (fun _ u=>u=9) w5 w6:=((Ku.refl _ _ _).alloc HM.out.2.2.2 _).trans (Ku.of_append (HSS.out.1.alloc _) hgrow3 (by have:=HM.out.2.2.2;simp;omega) (fun _ _=>rfl));have H6:=hide (show DcI N w W (j * 1000100+(i+1)) _ w6 from ⟨HKU.out.trans k6,ss++[s'],by simpa using hown3,by have:=HSS.out.2.1;simp;omega,fun y hy=>by
               rcases List.mem_append.1 hy with hy | hy
               · exact HSS.out.2.2 y hy
               · obtain rfl:=List.mem_singleton.1 hy
                 exact HM.out.2.2.1⟩);clear hown3 hgrow3 hat3 hlt3 k6)
           go_roundg (gcs.length - (i+1))
           case measure=>omega
           case rel=>exact ⟨i+1,by omega,by first | rfl | simp,H6⟩
       · obtain rfl:i=gcs.length:=by omega
         have q1:¬ ((gcs.length:Int) < (gcs.length:Int)):=by omega
         have hgl:=HCM.out.len
         go_wp2_with fail
         go_roundg (2 - (j+1))
         case measure=>omega
         case rel=>exact ⟨j+1,by omega,by first | rfl | simp,hide ⟨HJ.out.1,HJ.out.2.le (by omega)⟩⟩
   · obtain rfl:j=2:=by omega
     obtain ⟨ss,hss,hsl,hsb⟩:=HI.out.2
     have hbw:Below w.heap.size w wr:=HW.out.trans HI.out.1.below
     have HBW:=hide hbw
     clear HI hbw
     rcases Nat.eq_zero_or_pos ss.length with h0 | h0
     · obtain ⟨a,c,e⟩:=owns_any hss
       rw [h0] at e
       subst e
       clear hss
       go_wp2_with fail
       refine (Tryz.strings_Join_none _ _ _ _).mono ?_
       rintro e w1 ⟨rfl,rfl⟩
       go_wp2_with fail
       go_ret
       exact ⟨⟨_,rfl,by decide⟩,HBW.out⟩
     · obtain ⟨n,hn⟩:∃ n,ss.length=n+1:=⟨ss.length - 1,by omega⟩
       have hss':=hss
       rw [hn] at hss'
       obtain ⟨g,c,rfl⟩:=owns_form hss'
       rw [← hn] at hss hss'
       have hcap:ss.length≤c:=by
         rcases hss.2 with ⟨h,_⟩ | ⟨g',cap',cur,e,_,hh,r1,_⟩
         · cases h
         · simp only [Value.slice.injEq,Option.some.injEq,Addr.mk.injEq,and_true] at e
           omega
       have hjl:=join_len 1000000 (ss.map (·.data.toList)) (⟨#[10]⟩:ByteArray).data.toList (fun y hy=>by
         obtain ⟨z,hz,rfl⟩:=List.mem_map.1 hy
         have:=hsb z hz
         show (bsl z).length≤_
         rw [bsl_len];exact this)
       rw [List.length_map] at hjl
       have hjl2:(Lib.join (ss.map (·.data.toList)) (⟨#[10]⟩:ByteArray).data.toList).length≤140737488355328:=by
         refine Nat.le_trans hjl ?_
         have e1:(⟨#[10]⟩:ByteArray).data.toList.length=1:=rfl
         rw [e1]
         clear hjl hcap hss hss' hn hsb
         omega
       have hjn:=(Tryz.strings_Join g 0 c ss ⟨#[10]⟩ wr (fun q y hy=>by
         have hq:=(List.getElem?_eq_some_iff.1 hy).1
         rw [Nat.zero_add,hss.cellAt q (by omega),List.getElem?_map,hy];rfl) (hss.lt g rfl).2 (by omega) hcap hjl2)
       rw [hn] at hjn
       have HJN:=hide hjn
       have HJL:=hide hjl2
       clear hss hss' hsb hjl hn hjl2 hjn
       go_wp2_with fail
       go_fit HJN.out
       rintro e w1 ⟨rfl,hb1⟩
       have HB1:=hide (HBW.out.trans (hb1.mono HBW.out.size))
       clear hb1
       go_wp2_with fail
       go_ret
       refine ⟨⟨_,rfl,?_⟩,HB1.out⟩
       rw [arr_size]
       exact HJL.out
theorem directive_any (N:Nat) (L:Nat) (b:Option Nat) (w:World) (f:Nat→Int) (hL:ComsAt N w L 136) (hX:∀ X,b=some X→ComsAt N w X 143) (hf:OpTab w 4 f) (hg:4 < w.heap.size) :
   Calls Tryz.prog 79 #[.pointer (b.map fun X=>⟨X,0,none⟩),.pointer (some ⟨L,0,none⟩)] w (DcR w):=by
 rcases b with _ | X
 · exact directive_1 N L w f hL hf hg
 · have hlen:∀ {v:Value} {a b:List Cmt},CmB N w v a→CmB N w v b→a.length=b.length:=by
     intro v a b h1 h2
     obtain ⟨x,y,e⟩:=owns_any h1.cm.1
     obtain ⟨x',y',e'⟩:=owns_any h2.cm.1
     rw [e] at e'
     simp only [Value.slice.injEq] at e'
     exact e'.2.1
   obtain ⟨cs,bv,sv,c1,c2,hb,h0,h1,hc1,hc2⟩:=hL
   have hL':ComsAt N w L 136:=⟨cs,bv,sv,c1,c2,hb,h0,h1,hc1,hc2⟩
   have e0:=hb.cell 0 h0
   have e1:=hb.cell 1 h1
   have k0:∀ v cs,w.cell? ⟨L,0,none⟩=some v→CmB N w v cs→cs.length=c1.length:=fun v cs hv hc=>by
     rw [e0] at hv;cases hv;exact hlen hc hc1
   have k1:∀ v cs,w.cell? ⟨L,1,none⟩=some v→CmB N w v cs→cs.length=c2.length:=fun v cs hv hc=>by
     rw [e1] at hv;cases hv;exact hlen hc hc2
   by_cases z1:c1.length=0
   · by_cases z2:c2.length=0
     · exact directive_4 N L X w f hL' (hX X rfl) hf hg (fun v cs hv hc=>(k0 v cs hv hc).trans z1) (fun v cs hv hc=>(k1 v cs hv hc).trans z2)
     · exact directive_3 N L X w f hL' hf hg (fun v cs hv hc=>(k0 v cs hv hc).trans z1) (fun v cs hv hc=>by rw [k1 v cs hv hc];exact z2)
   · exact directive_2 N L X w f hL' hf hg (fun v cs hv hc=>by rw [k0 v cs hv hc];exact z1)
end
end Go.Proofs.YtifkpibjeamfkaaGreatFmt
