/-
  The reference's Text.
-/
import Derived.Test.YtifkpibjeamfkaaGreatFmtZ44
set_option linter.unusedVariables false
set_option linter.unusedSimpArgs false
set_option maxRecDepth 100000
namespace Go.Proofs.YtifkpibjeamfkaaGreatFmt
section
open Go.RowKit Go.Proofs Go.Deep
set_option maxHeartbeats 16000000 in
theorem text_any (c:Cont) (blk:Bool) (v1 v2 v3 v4 v5 v6:Value) (w:World) (h:ContV w c v1 v2 v3 v4 v5 v6) (hf:ContF c):Calls Tryz.prog 12 #[contV' c v1 v2 v3 v4 v5 v6,.bool blk] w (StrR (joinS (listS c blk)) w):=by
 obtain ⟨i0,hi0,hz0,hz1,hz2⟩:=info_parts Tryz.infoStr
 obtain ⟨ii,hii,hyy⟩:=Option.map_eq_some_iff.1 Tryz.infoItem
 simp only [Prod.mk.injEq] at hyy
 obtain ⟨zi,hzi,hzic⟩:=Option.map_eq_some_iff.1 hyy.1
 have hyy2:=hyy.2.1
 have hyy3:=hyy.2.2
 clear hyy
 obtain ⟨r1,r2,r3,r4,r5,r6⟩:=h
 obtain ⟨a1,p1,rfl,hc1,hx1⟩:=r1
 obtain ⟨a2,p2,rfl,hc2,hx2⟩:=r2
 obtain ⟨a3,p3,rfl,hc3,hx3⟩:=r3
 obtain ⟨a4,p4,rfl,hc4,hx4⟩:=r4
 obtain ⟨a5,p5,rfl,hc5,hx5⟩:=r5
 obtain ⟨a6,p6,rfl,hc6,hx6⟩:=r6
 simp only [List.length_map] at hc1 hc2 hc3 hc4 hc5 hc6 hx1 hx2 hx3 hx4 hx5 hx6 ⊢
 have HX1:=hide hx1
 have HX2:=hide hx2
 have HX3:=hide hx3
 have HX4:=hide hx4
 have HX5:=hide hx5
 have HX6:=hide hx6
 obtain ⟨z2,hz2',hn2,hm2⟩:=empty_bool c.go
 obtain ⟨z3,hz3',hn3,hm3⟩:=empty_bool c.tc
 obtain ⟨s1,hs1⟩:∃ s,s=mkS c.mod:=⟨_,rfl⟩
 obtain ⟨s2,hs2⟩:∃ s,s=mkS c.go:=⟨_,rfl⟩
 obtain ⟨s3,hs3⟩:∃ s,s=mkS c.tc:=⟨_,rfl⟩
 have l2:s2.size≤1000:=by rw [hs2,mkS_size];exact go_len hf.go
 have l3:s3.size≤1000:=by rw [hs3,mkS_size];exact go_len hf.tc
 rw [← hs2] at hz2'
 rw [← hs3] at hz3'
 unfold contV'
 rw [← hs1,← hs2,← hs3]
 have HQ:=hide (And.intro hs1 (And.intro (show bsl s2=c.go from by rw [hs2];rfl) (show bsl s3=c.tc from by rw [hs3];rfl)))
 have N2:=hide (And.intro hn2 hm2)
 have N3:=hide (And.intro hn3 hm3)
 have HF:=hide hf
 have q1:=hf.n1
 have q2:=hf.n2
 have q3:=hf.n3
 have q4:=hf.n4
 have q5:=hf.n5
 have q6:=hf.n6
 clear hs1 hs2 hs3 hn2 hn3 hm2 hm3 hx1 hx2 hx3 hx4 hx5 hx6 hf
 have HK0:=hide (Blk.new w 28 #[.string s1,.string s2,.string s3,.slice a1 c.reqs.length p1,.slice a2 c.excs.length p2,.slice a3 c.reps.length p3,.slice a4 c.rets.length p4,.slice a5 c.tools.length p5,.slice a6 c.igns.length p6])
 have HB0:=hide ((Below.refl w.heap.size w).alloc (Nat.le_refl _) (Obj.cells #[.string s1,.string s2,.string s3,.slice a1 c.reqs.length p1,.slice a2 c.excs.length p2,.slice a3 c.reps.length p3,.slice a4 c.rets.length p4,.slice a5 c.tools.length p5,.slice a6 c.igns.length p6] 28))
 go_enter Tryz.func12,Tryz.ntmps12
 go_upto_region 1 with fail
 generalize w.alloc (Obj.cells #[.string s1,.string s2,.string s3,.slice a1 c.reqs.length p1,.slice a2 c.excs.length p2,.slice a3 c.reps.length p3,.slice a4 c.rets.length p4,.slice a5 c.tools.length p5,.slice a6 c.igns.length p6] 28)=W at HK0 HB0 ⊢
 have k0:W.cell? ⟨w.heap.size,0,none⟩=some (.string s1):=HK0.out.cell 0 rfl
 go_wp2_with fail
 have hB1:Below w.heap.size w (W.alloc (Obj.cells #[.string ⟨#[]⟩,.string s1] 59)):=HB0.out.alloc HB0.out.size _
 have HB1:=hide hB1
 have HK1:=hide (HK0.out.alloc (Obj.cells #[.string ⟨#[]⟩,.string s1] 59))
 have HR1:=hide (show RowV (W.alloc (Obj.cells #[.string ⟨#[]⟩,.string s1] 59)) (.slice (some ⟨W.heap.size,0,none⟩) 1 1) 2 ([(([]:List UInt8),c.mod)].map itV) from by rw [HQ.out.1];exact row_one W c.mod)
 clear hB1 k0
 generalize W.alloc (Obj.cells #[.string ⟨#[]⟩,.string s1] 59)=W1 at HB1 HK1 HR1 ⊢
 have HSc:=hide (show Calls Tryz.prog 33 #[.string ⟨#[109,111,100,117,108,101]⟩,.slice (some ⟨W.heap.size,0,none⟩) 1 1,.bool false] W1 (SecR (secS moW [(([]:List UInt8),c.mod)] false) W1) from
   section_any moW [(([]:List UInt8),c.mod)] _ false W1 HR1.out (by decide) (by simp) (fun x hx=>by
     obtain rfl:=List.mem_singleton.1 hx
     exact ⟨by simp,by have:=path_len HF.out.mod;show c.mod.length≤2000;omega⟩))
 go_fit HSc.out
 rintro e w2 ⟨u5,rfl,hb2,ho2⟩
 have HT2:=hide (show TxI w w2 #[.string s1,.string s2,.string s3,.slice a1 c.reqs.length p1,.slice a2 c.excs.length p2,.slice a3 c.reps.length p3,.slice a4 c.rets.length p4,.slice a5 c.tools.length p5,.slice a6 c.igns.length p6] u5 (listS1 c) [] (.slice none 0 0) 0 from ⟨HB1.out.trans (hb2.mono HB1.out.size),HK1.out.kept (Kp.of_below (X:=fun _=>False) hb2) (fun h=>h),own_low ho2 HB1.out.size,own_nil2 _ _,rfl⟩)
 clear hb2 ho2 HSc HR1 HK1 HB1 HB0 HK0
 have k1:w2.cell? ⟨w.heap.size,1,none⟩=some (.string s2):=HT2.out.blk.cell 1 rfl
 go_upto_if 29 with fail
 go_cut [5] (fun x wx=>Hid (TxI w wx #[.string s1,.string s2,.string s3,.slice a1 c.reqs.length p1,.slice a2 c.excs.length p2,.slice a3 c.reps.length p3,.slice a4 c.rets.length p4,.slice a5 c.tools.length p5,.slice a6 c.igns.length p6] x (listS2 c) [] (.slice none 0 0) 0))
 case first =>
   cases z2 with
   | true =>
     have HE:=hide (N2.out.1 rfl)
     go_wp2_with fail
     go_meet
     exact hide (by have:=HT2.out;unfold listS2 optS;rw [if_pos HE.out,List.append_nil];exact this)
   | false =>
     have HE:=hide (N2.out.2 rfl)
     have hlen:(listS1 c).length≤3:=listS1_len c
     have bl:=HT2.out.below.size
     have hm1:(listS1 c).length+1≤maxLen:=by unfold maxLen;omega
     have hm2:((listS1 c).length+1) * 16≤140737488355328:=by omega
     have HM:=hide (And.intro hm1 hm2)
     clear hm1 hm2
     go_wp2_with (at_builtin;refine wpList_append_lies _ rfl _ _ _ rfl w.heap.size 9 i0 _ 1 16 Tryz.und_strs hi0 hz0 hz1 hz2 rfl (by omega) _ _ _ (by rfl) (HT2.out.list.alloc _) ⟨w2.heap.size,0,none⟩ 1 1 [_] (by rfl) (by rfl) (news_one _ _ _) (by simp [Value.oneCell']) (by omega) HM.out.1 HM.out.2 (by simp;omega) (w2.heap.size+1) (by simp) ?_;intro gg gc w3 hown3 hgrow3 hat3 hlt3;have hk3:=Ku.of_append (S:=fun _ u=>u=9) (HT2.out.list.alloc _) hgrow3 (by simp;omega) (fun _ _=>rfl);have HT3:=hide ((HT2.out.step ((Below.refl _ _).alloc (Nat.le_refl _) _)).list1 hk3 hown3);clear hown3 hgrow3 hat3 hlt3 hk3)
     go_meet
     exact hide (HT3.out.conv (by
       unfold listS2 optS
       rw [if_neg HE.out,List.map_append,List.map_cons,List.map_nil]
       congr 2
       refine strL_of ?_
       simp only [bsl_append,HQ.out.2.1]
       simp [bsl,goW]))
 case rest =>
 have HT3:=hcut
 clear HT2 hcut k1
 have k1:wc.cell? ⟨w.heap.size,2,none⟩=some (.string s3):=HT3.out.blk.cell 2 rfl
 go_upto_if 39 with fail
 go_cut [5] (fun x wx=>Hid (TxI w wx #[.string s1,.string s2,.string s3,.slice a1 c.reqs.length p1,.slice a2 c.excs.length p2,.slice a3 c.reps.length p3,.slice a4 c.rets.length p4,.slice a5 c.tools.length p5,.slice a6 c.igns.length p6] x (listS3 c) [] (.slice none 0 0) 0))
 case first =>
   cases z3 with
   | true =>
     have HE:=hide (N3.out.1 rfl)
     go_wp2_with fail
     go_meet
     exact hide (by have:=HT3.out;unfold listS3 optS;rw [if_pos HE.out,List.append_nil];exact this)
   | false =>
     have HE:=hide (N3.out.2 rfl)
     have hlen:(listS2 c).length≤3:=listS2_len c
     have bl:=HT3.out.below.size
     have hm1:(listS2 c).length+1≤maxLen:=by unfold maxLen;omega
     have hm2:((listS2 c).length+1) * 16≤140737488355328:=by omega
     have HM:=hide (And.intro hm1 hm2)
     clear hm1 hm2
     go_wp2_with (at_builtin;refine wpList_append_lies _ rfl _ _ _ rfl w.heap.size 9 i0 _ 1 16 Tryz.und_strs hi0 hz0 hz1 hz2 rfl (by omega) _ _ _ (by rfl) (HT3.out.list.alloc _) ⟨wc.heap.size,0,none⟩ 1 1 [_] (by rfl) (by rfl) (news_one _ _ _) (by simp [Value.oneCell']) (by omega) HM.out.1 HM.out.2 (by simp;omega) (wc.heap.size+1) (by simp) ?_;intro gg gc w4 hown3 hgrow4 hat3 hlt3;have hk3:=Ku.of_append (S:=fun _ u=>u=9) (HT3.out.list.alloc _) hgrow4 (by simp;omega) (fun _ _=>rfl);have HT4:=hide ((HT3.out.step ((Below.refl _ _).alloc (Nat.le_refl _) _)).list1 hk3 hown3);clear hown3 hgrow4 hat3 hlt3 hk3)
     go_meet
     exact hide (HT4.out.conv (by
       unfold listS3 optS
       rw [if_neg HE.out,List.map_append,List.map_cons,List.map_nil]
       congr 2
       refine strL_of ?_
       simp only [bsl_append,HQ.out.2.2]
       simp [bsl,tcW]))
 case rest =>
 have HT4:=hcut
 clear HT3 hcut k1
 have HT5:=hide (show TxI w (wc.alloc (Obj.cells #[] 59)) #[.string s1,.string s2,.string s3,.slice a1 c.reqs.length p1,.slice a2 c.excs.length p2,.slice a3 c.reps.length p3,.slice a4 c.rets.length p4,.slice a5 c.tools.length p5,.slice a6 c.igns.length p6] u5 (listS3 c) [] (.slice (some ⟨wc.heap.size,0,none⟩) 0 0) 0 from by
   have h:=HT4.out.step ((Below.refl _ wc).alloc (Nat.le_refl _) (Obj.cells #[] 59))
   exact ⟨h.below,h.blk,h.list,⟨by simp,Or.inr ⟨wc.heap.size,0,#[],rfl,HT4.out.below.size,(Blk.new wc 59 #[]).out,Nat.le_refl _,Nat.zero_le _,rfl,rfl⟩⟩,rfl⟩)
 have g1:wc.cell? ⟨w.heap.size,3,none⟩=some (.slice a1 c.reqs.length p1):=HT4.out.blk.cell 3 rfl
 have bl4:=HT4.out.blk.lt
 go_wp2_with fail
 generalize wc.alloc (Obj.cells #[] 59)=W5 at HT5 ⊢
 clear HT4 g1 bl4
 go_loopg [6,51] c.reqs.length (fun k y6 yx wr=>∃ j:Nat,j+k=c.reqs.length∧yx=.int .i64 (j:Int)∧Hid (TxI w wr #[.string s1,.string s2,.string s3,.slice a1 c.reqs.length p1,.slice a2 c.excs.length p2,.slice a3 c.reps.length p3,.slice a4 c.rets.length p4,.slice a5 c.tools.length p5,.slice a6 c.igns.length p6] u5 (listS3 c) ((c.reqs.take j).map (fun r=>itP (reqI r))) y6 j))
 case atStart=>exact ⟨0,by omega,by simp,by simpa using HT5⟩
 case round =>
   obtain ⟨j,hj,rfl,HI⟩:=hrel
   rcases Nat.lt_or_ge j c.reqs.length with hlt | hge
   · have hr:c.reqs[j]?=some c.reqs[j]:=List.getElem?_eq_getElem hlt
     obtain ⟨b,o,rfl,hcell⟩:=HX1.out j (reqV c.reqs[j]) (by rw [List.getElem?_map,hr];rfl)
     have HTK:=hide (show (c.reqs.take (j+1)).map (fun r=>itP (reqI r))=(c.reqs.take j).map (fun r=>itP (reqI r))++[itP (reqI c.reqs[j])] from take_map hlt)
     have hok:=HF.out.reqs c.reqs[j] (List.getElem_mem hlt)
     have HOK:=hide hok
     clear hok
     generalize c.reqs[j]=r at hcell HTK HOK
     have c0:w.cell? ⟨b,o+j * 3,none⟩=some (.string (mkS r.p)):=hcell 0 _ rfl
     have c1:w.cell? ⟨b,o+j * 3+1,none⟩=some (.string (mkS r.v)):=hcell 1 _ rfl
     have c2:w.cell? ⟨b,o+j * 3+2,none⟩=some (.bool r.ind):=hcell 2 _ rfl
     have k0:=(HI.out.below.cell (World.block_lt_of_cell? w _ c0)).trans c0
     have k1:=(HI.out.below.cell (World.block_lt_of_cell? w _ c1)).trans c1
     have k2:=(HI.out.below.cell (World.block_lt_of_cell? w _ c2)).trans c2
     have bl:=HI.out.below.size
     have bl0:=World.block_lt_of_cell? w _ c0
     have j0:(0:Int)≤(j:Int):=by omega
     have j1:(j:Int) < (c.reqs.length:Int):=by omega
     have HM:=hide (And.intro (show j+1≤maxLen from by unfold maxLen;omega) (show (j+1) * 32≤140737488355328 from by omega))
     clear hcell hr c0 c1 c2
     go_wp2_with fail
     have HI0:=hide (HI.out.step ((Below.refl _ wr).alloc (Nat.le_refl _) (Obj.cells #[.string (mkS r.p),.string (mkS r.v),.bool r.ind] 46)))
     clear HI
     generalize wr.alloc (Obj.cells #[.string (mkS r.p),.string (mkS r.v),.bool r.ind] 46)=W0 at HI0 ⊢
     go_fit (requireText_any r _ (by have:=path_len HOK.out.1;omega) (by have:=HOK.out.2.all.1;omega))
     rintro e x1 ⟨rfl,hw1⟩
     have HI1:=hide (HI0.out.step hw1)
     clear hw1 HI0
     go_wp2_with (at_builtin;refine wpList_append_lies _ rfl _ _ _ rfl w.heap.size 59 ii _ 2 32 Tryz.und_items hii hzi hyy2 hyy3 hzic (by omega) _ j _ (by rfl) (HI1.out.items.alloc _) ⟨x1.heap.size,0,none⟩ 1 1 [.string ⟨#[]⟩,.string (mkS (itmT (reqI r)))] (by rfl) (by rfl) (news_one _ _ _) (by simp [Value.oneCell']) (by omega) HM.out.1 HM.out.2 (by have:=HI1.out.below.size;simp;omega) (x1.heap.size+1) (by simp) ?_;intro gg gc w3 hown3 hgrow3 hat3 hlt3;have hk3:=Ku.of_append (S:=fun _ u=>u=59) (HI1.out.items.alloc _) hgrow3 (by have:=HI1.out.below.size;simp;omega) (fun _ _=>rfl);have HN3:=hide ((HI1.out.step ((Below.refl _ _).alloc (Nat.le_refl _) _)).item hk3 hown3 rfl HTK.out);clear hown3 hgrow3 hat3 hlt3 hk3)
     go_roundg (c.reqs.length - (j+1))
     case measure=>omega
     case rel=>exact ⟨j+1,by omega,by simp,HN3⟩
   · obtain rfl:j=c.reqs.length:=by omega
     have hT:=HI.out
     rw [List.take_length] at hT
     have HTa:=hide hT
     obtain ⟨y6,hy6⟩:∃ y6,y6=u6:=⟨_,rfl⟩
     have HSc:=hide (show Calls Tryz.prog 33 #[.string ⟨#[114,101,113,117,105,114,101]⟩,u6,.bool blk] wr (SecR (secS rqW (c.reqs.map (fun r=>itP (reqI r))) blk) wr) from
       section_any rqW (c.reqs.map (fun r=>itP (reqI r))) u6 blk wr hT.row (by decide) (by rw [List.length_map];omega) (its_len c HF.out).1)
     have hlp:(listS3 c).length≤3:=by have:=listS3_len c;omega
     have hls:(secS rqW (c.reqs.map (fun r=>itP (reqI r))) blk).length≤100:=secS_count _ _ _ (by rw [List.length_map];omega)
     have hln1:(listS4 c blk).length≤103:=by unfold listS4;rw [List.length_append];omega
     have HM:=hide (And.intro (show (listS3 c).length+(secS rqW (c.reqs.map (fun r=>itP (reqI r))) blk).length≤maxLen from by unfold maxLen;omega) (show ((listS3 c).length+(secS rqW (c.reqs.map (fun r=>itP (reqI r))) blk).length) * 16≤140737488355328 from by omega))
     have bl:=hT.below.size
     clear hT HI hlp hls hy6 y6
     go_wp2_with fail
     go_fit HSc.out
     rintro e x5 ⟨us,rfl,hb5,ho5⟩
     have HTb:=hide (HTa.out.step hb5)
     have HU:=hide ho5
     have bl5:=hb5.size
     clear hb5 ho5 HSc HTa
     go_wp2_with (at_builtin;refine wpList_append_any rfl _ _ _ rfl w.heap.size 9 i0 _ 1 16 Tryz.und_strs hi0 hz0 hz1 hz2 rfl (by omega) _ _ _ (by rfl) HTb.out.list wr.heap.size _ _ _ (by rfl) HU.out (by simp [strL,Value.oneCell']) HM.out.1 HM.out.2 HTb.out.below.size ?_;intro u31 w7 hown7 hk7;have HT8:=hide (HTb.out.sec hk7 (show listS4 c blk=(listS3 c)++secS rqW (c.reqs.map (fun r=>itP (reqI r))) blk from rfl) hown7);have gn1:w7.cell? ⟨w.heap.size,4,none⟩=some (.slice a2 c.excs.length p2):=HT8.out.blk.cell 4 rfl;clear hk7 hown7)
     clear HTb HU HM bl5 bl hj hge
     go_loopg [6,70] c.excs.length (fun k y6 yx wr=>∃ j:Nat,j+k=c.excs.length∧yx=.int .i64 (j:Int)∧Hid (TxI w wr #[.string s1,.string s2,.string s3,.slice a1 c.reqs.length p1,.slice a2 c.excs.length p2,.slice a3 c.reps.length p3,.slice a4 c.rets.length p4,.slice a5 c.tools.length p5,.slice a6 c.igns.length p6] u31 (listS4 c blk) ((c.excs.take j).map (fun r=>itP (excI r))) y6 j))
     case atStart=>exact ⟨0,by omega,by simp,by simpa using HT8⟩
     case round =>
       obtain ⟨j,hj,rfl,HI⟩:=hrel
       rcases Nat.lt_or_ge j c.excs.length with hlt | hge
       · have hr:c.excs[j]?=some c.excs[j]:=List.getElem?_eq_getElem hlt
         obtain ⟨b,o,rfl,hcell⟩:=HX2.out j (verV c.excs[j]) (by rw [List.getElem?_map,hr];rfl)
         have HTK:=hide (show (c.excs.take (j+1)).map (fun r=>itP (excI r))=(c.excs.take j).map (fun r=>itP (excI r))++[itP (excI c.excs[j])] from take_map hlt)
         have hok:=HF.out.excs c.excs[j] (List.getElem_mem hlt)
         have HOK:=hide hok
         clear hok
         generalize c.excs[j]=r at hcell HTK HOK
         have c0:w.cell? ⟨b,o+j * 2,none⟩=some (.string (mkS r.p)):=hcell 0 _ rfl
         have c1:w.cell? ⟨b,o+j * 2+1,none⟩=some (.string (mkS r.v)):=hcell 1 _ rfl
         have k0:=(HI.out.below.cell (World.block_lt_of_cell? w _ c0)).trans c0
         have k1:=(HI.out.below.cell (World.block_lt_of_cell? w _ c1)).trans c1
         have bl:=HI.out.below.size
         have bl0:=World.block_lt_of_cell? w _ c0
         have j0:(0:Int)≤(j:Int):=by omega
         have j1:(j:Int) < (c.excs.length:Int):=by omega
         have HM:=hide (And.intro (show j+1≤maxLen from by unfold maxLen;omega) (show (j+1) * 32≤140737488355328 from by omega))
         clear hcell hr c0 c1
         go_wp2_with fail
         have HI0:=hide (HI.out.step ((Below.refl _ wr).alloc (Nat.le_refl _) (Obj.cells #[.string (mkS r.p),.string (mkS r.v)] 48)))
         clear HI
         generalize wr.alloc (Obj.cells #[.string (mkS r.p),.string (mkS r.v)] 48)=W0 at HI0 ⊢
         go_fit (versionText_any r.p r.v _ (by have:=path_len HOK.out.1;omega) (by have:=HOK.out.2.all.1;omega))
         rintro e x1 ⟨rfl,hw1⟩
         have HI1:=hide (HI0.out.step hw1)
         clear hw1 HI0
         go_wp2_with (at_builtin;refine wpList_append_lies _ rfl _ _ _ rfl w.heap.size 59 ii _ 2 32 Tryz.und_items hii hzi hyy2 hyy3 hzic (by omega) _ j _ (by rfl) (HI1.out.items.alloc _) ⟨x1.heap.size,0,none⟩ 1 1 [.string ⟨#[]⟩,.string (mkS (verT r.p r.v))] (by rfl) (by rfl) (news_one _ _ _) (by simp [Value.oneCell']) (by omega) HM.out.1 HM.out.2 (by have:=HI1.out.below.size;simp;omega) (x1.heap.size+1) (by simp) ?_;intro gg gc w3 hown3 hgrow3 hat3 hlt3;have hk3:=Ku.of_append (S:=fun _ u=>u=59) (HI1.out.items.alloc _) hgrow3 (by have:=HI1.out.below.size;simp;omega) (fun _ _=>rfl);have HN3:=hide ((HI1.out.step ((Below.refl _ _).alloc (Nat.le_refl _) _)).item hk3 hown3 (by simp only [itP,itV,exc_txt];rfl) HTK.out);clear hown3 hgrow3 hat3 hlt3 hk3)
         go_roundg (c.excs.length - (j+1))
         case measure=>omega
         case rel=>exact ⟨j+1,by omega,by simp,HN3⟩
       · obtain rfl:j=c.excs.length:=by omega
         have hT:=HI.out
         rw [List.take_length] at hT
         have HTa:=hide hT
         obtain ⟨y6,hy6⟩:∃ y6,y6=u6:=⟨_,rfl⟩
         have HSc:=hide (show Calls Tryz.prog 33 #[.string ⟨#[101,120,99,108,117,100,101]⟩,u6,.bool blk] wr (SecR (secS exW (c.excs.map (fun r=>itP (excI r))) blk) wr) from
           section_any exW (c.excs.map (fun r=>itP (excI r))) u6 blk wr hT.row (by decide) (by rw [List.length_map];omega) (its_len c HF.out).2.1)
         have hlp:(listS4 c blk).length≤103:=by exact hln1
         have hls:(secS exW (c.excs.map (fun r=>itP (excI r))) blk).length≤100:=secS_count _ _ _ (by rw [List.length_map];omega)
         have hln2:(listS5 c blk).length≤203:=by unfold listS5;rw [List.length_append];omega
         have HM:=hide (And.intro (show (listS4 c blk).length+(secS exW (c.excs.map (fun r=>itP (excI r))) blk).length≤maxLen from by unfold maxLen;omega) (show ((listS4 c blk).length+(secS exW (c.excs.map (fun r=>itP (excI r))) blk).length) * 16≤140737488355328 from by omega))
         have bl:=hT.below.size
         clear hT HI hlp hls hy6 y6
         go_wp2_with fail
         go_fit HSc.out
         rintro e x5 ⟨us,rfl,hb5,ho5⟩
         have HTb:=hide (HTa.out.step hb5)
         have HU:=hide ho5
         have bl5:=hb5.size
         clear hb5 ho5 HSc HTa
         go_wp2_with (at_builtin;refine wpList_append_any rfl _ _ _ rfl w.heap.size 9 i0 _ 1 16 Tryz.und_strs hi0 hz0 hz1 hz2 rfl (by omega) _ _ _ (by rfl) HTb.out.list wr.heap.size _ _ _ (by rfl) HU.out (by simp [strL,Value.oneCell']) HM.out.1 HM.out.2 HTb.out.below.size ?_;intro u32 w7 hown7 hk7;have HT11:=hide (HTb.out.sec hk7 (show listS5 c blk=(listS4 c blk)++secS exW (c.excs.map (fun r=>itP (excI r))) blk from rfl) hown7);have gn2:w7.cell? ⟨w.heap.size,5,none⟩=some (.slice a3 c.reps.length p3):=HT11.out.blk.cell 5 rfl;clear hk7 hown7)
         clear HTb HU HM bl5 bl hj hge
         go_loopg [6,89] c.reps.length (fun k y6 yx wr=>∃ j:Nat,j+k=c.reps.length∧yx=.int .i64 (j:Int)∧Hid (TxI w wr #[.string s1,.string s2,.string s3,.slice a1 c.reqs.length p1,.slice a2 c.excs.length p2,.slice a3 c.reps.length p3,.slice a4 c.rets.length p4,.slice a5 c.tools.length p5,.slice a6 c.igns.length p6] u32 (listS5 c blk) ((c.reps.take j).map (fun r=>itP (repI r))) y6 j))
         case atStart=>exact ⟨0,by omega,by simp,by simpa using HT11⟩
         case round =>
           obtain ⟨j,hj,rfl,HI⟩:=hrel
           rcases Nat.lt_or_ge j c.reps.length with hlt | hge
           · have hr:c.reps[j]?=some c.reps[j]:=List.getElem?_eq_getElem hlt
             obtain ⟨b,o,rfl,hcell⟩:=HX3.out j (repV c.reps[j]) (by rw [List.getElem?_map,hr];rfl)
             have HTK:=hide (show (c.reps.take (j+1)).map (fun r=>itP (repI r))=(c.reps.take j).map (fun r=>itP (repI r))++[itP (repI c.reps[j])] from take_map hlt)
             have hok:=HF.out.reps c.reps[j] (List.getElem_mem hlt)
             have HOK:=hide hok
             clear hok
             generalize c.reps[j]=r at hcell HTK HOK
             have c0:w.cell? ⟨b,o+j * 4,none⟩=some (.string (mkS r.op)):=hcell 0 _ rfl
             have c1:w.cell? ⟨b,o+j * 4+1,none⟩=some (.string (mkS r.ov)):=hcell 1 _ rfl
             have c2:w.cell? ⟨b,o+j * 4+2,none⟩=some (.string (mkS r.np)):=hcell 2 _ rfl
             have c3:w.cell? ⟨b,o+j * 4+3,none⟩=some (.string (mkS r.nv)):=hcell 3 _ rfl
             have k0:=(HI.out.below.cell (World.block_lt_of_cell? w _ c0)).trans c0
             have k1:=(HI.out.below.cell (World.block_lt_of_cell? w _ c1)).trans c1
             have k2:=(HI.out.below.cell (World.block_lt_of_cell? w _ c2)).trans c2
             have k3:=(HI.out.below.cell (World.block_lt_of_cell? w _ c3)).trans c3
             have bl:=HI.out.below.size
             have bl0:=World.block_lt_of_cell? w _ c0
             have j0:(0:Int)≤(j:Int):=by omega
             have j1:(j:Int) < (c.reps.length:Int):=by omega
             have HM:=hide (And.intro (show j+1≤maxLen from by unfold maxLen;omega) (show (j+1) * 32≤140737488355328 from by omega))
             clear hcell hr c0 c1 c2 c3
             have HI0:=hide (HI.out.step ((Below.refl _ wr).alloc (Nat.le_refl _) (Obj.cells #[.string (mkS r.op),.string (mkS r.ov),.string (mkS r.np),.string (mkS r.nv)] 50)))
             have HE0:=hide (Blk.new wr 50 #[.string (mkS r.op),.string (mkS r.ov),.string (mkS r.np),.string (mkS r.nv)])
             go_wp2_with fail
             clear HI
             generalize wr.alloc (Obj.cells #[.string (mkS r.op),.string (mkS r.ov),.string (mkS r.np),.string (mkS r.nv)] 50)=W0 at HI0 HE0 ⊢
             obtain ⟨eb,heb⟩:∃ eb,eb=wr.heap.size:=⟨_,rfl⟩
             rw [← heb] at HE0 ⊢
             have hebw:eb < W0.heap.size:=HE0.out.lt
             clear heb
             have e0:W0.cell? ⟨eb,0,none⟩=some (.string (mkS r.op)):=HE0.out.cell 0 rfl
             have e1:W0.cell? ⟨eb,1,none⟩=some (.string (mkS r.ov)):=HE0.out.cell 1 rfl
             have e2:W0.cell? ⟨eb,2,none⟩=some (.string (mkS r.np)):=HE0.out.cell 2 rfl
             have e3:W0.cell? ⟨eb,3,none⟩=some (.string (mkS r.nv)):=HE0.out.cell 3 rfl
             have z1:=verT_size r.op r.ov (by have:=path_len HOK.out.1;omega) (nice_len HOK.out.2.1)
             have z2':=verT_size r.np r.nv HOK.out.2.2.1.len (nice_len HOK.out.2.2.2)
             change Code.wp _ (Code.region _ #[_,_,_,_,id _,_,_,_,id _,_,_,_,_] _) _ _ _
             go_region_held3 (fun w'=>w'.cell? ⟨eb,0,none⟩=some (.string (mkS r.op))∧w'.cell? ⟨eb,1,none⟩=some (.string (mkS r.ov))∧w'.cell? ⟨eb,2,none⟩=some (.string (mkS r.np))∧w'.cell? ⟨eb,3,none⟩=some (.string (mkS r.nv))) (go_keep)
               (first
                 | (have _t:=HI1;clear _t;go_at_call 35;go_must ((go_fit (versionText_any r.np r.nv _ HOK.out.2.2.1.len (nice_len HOK.out.2.2.2)));(rintro e x2 ⟨rfl,hy2⟩);(obtain ⟨t2,ht2⟩:∃ t,t=mkS (verT r.np r.nv):=⟨_,rfl⟩);(have hzb:t2.size≤3000:=ht2 ▸ z2');(rw [← ht2]);(have HTx2:=hide ht2);(clear ht2);(have hE2:=HE1.out.kept (Kp.of_below (X:=fun _=>False) hy2) (fun h=>h));(have e20:x2.cell? ⟨eb,0,none⟩=some (.string (mkS r.op)):=hE2.cell 0 rfl);(have e21:x2.cell? ⟨eb,1,none⟩=some (.string (mkS r.ov)):=hE2.cell 1 rfl);(have e22:x2.cell? ⟨eb,2,none⟩=some (.string (mkS r.np)):=hE2.cell 2 rfl);(have e23:x2.cell? ⟨eb,3,none⟩=some (.string (mkS r.nv)):=hE2.cell 3 rfl);(have HE2:=hide hE2);(have HI2:=hide (HI1.out.step hy2));(clear hy2 hE2)))
                 | (go_at_call 35;go_must ((go_fit (versionText_any r.op r.ov _ (by have:=path_len HOK.out.1;omega) (nice_len HOK.out.2.1)));(rintro e x1 ⟨rfl,hw1⟩);(obtain ⟨t1,ht1⟩:∃ t,t=mkS (verT r.op r.ov):=⟨_,rfl⟩);(have hza:t1.size≤3000:=ht1 ▸ z1);(rw [← ht1]);(have HTx1:=hide ht1);(clear ht1);(have hy1:Below W0.heap.size W0 x1:=(Below.refl _ _).drew.trans hw1);(have hE1:=HE0.out.kept (Kp.of_below (X:=fun _=>False) hy1) (fun h=>h));(have e10:x1.cell? ⟨eb,0,none⟩=some (.string (mkS r.op)):=hE1.cell 0 rfl);(have e11:x1.cell? ⟨eb,1,none⟩=some (.string (mkS r.ov)):=hE1.cell 1 rfl);(have e12:x1.cell? ⟨eb,2,none⟩=some (.string (mkS r.np)):=hE1.cell 2 rfl);(have e13:x1.cell? ⟨eb,3,none⟩=some (.string (mkS r.nv)):=hE1.cell 3 rfl);(have HE1:=hide hE1);(have HI1:=hide (HI0.out.step hy1));(clear hw1 hy1 hE1)))
                 | (have _t:=HI2;clear _t;refine step_append_lies _ (by rfl) _ _ _ (by rfl) w.heap.size 59 ii _ 2 32 Tryz.und_items hii hzi hyy2 hyy3 hzic (by omega) _ j _ (by rfl) (HI2.out.items.alloc _) ⟨x2.heap.size,0,none⟩ 1 1 [.string ⟨#[]⟩,_] (by rfl) (by rfl) (news_one _ _ _) (by simp [Value.oneCell']) (by omega) HM.out.1 HM.out.2 (by have:=HI2.out.below.size;simp;omega) (x2.heap.size+1) (by simp) ?_;intro gg gc w3 hown3 hgrow3 hat3 hlt3;have hk3:=Ku.of_append (S:=fun _ u=>u=59) (HI2.out.items.alloc _) hgrow3 (by have:=HI2.out.below.size;simp;omega) (fun _ _=>rfl);have hE3:=(HE2.out.alloc _).keptU hk3 (by decide);have e30:w3.cell? ⟨eb,0,none⟩=some (.string (mkS r.op)):=hE3.cell 0 rfl;have e31:w3.cell? ⟨eb,1,none⟩=some (.string (mkS r.ov)):=hE3.cell 1 rfl;have e32:w3.cell? ⟨eb,2,none⟩=some (.string (mkS r.np)):=hE3.cell 2 rfl;have e33:w3.cell? ⟨eb,3,none⟩=some (.string (mkS r.nv)):=hE3.cell 3 rfl;have HN3:=hide ((HI2.out.step ((Below.refl _ _).alloc (Nat.le_refl _) _)).item hk3 hown3 (by simp only [itP,itV,rep_txt];refine congrArg (fun v=>[Value.string (mkS []),v]) (strL_of ?_).symm;simp only [bsl_append,HTx1.out,HTx2.out,bsl_mkSv];simp [bsl]) HTK.out);clear hown3 hgrow3 hat3 hlt3 hk3 hE3))
             all_goals go_wp2_with fail
             all_goals go_roundg (c.reps.length - (j+1))
             all_goals first | exact ⟨j+1,by omega,by simp,HN3⟩ | omega
           · obtain rfl:j=c.reps.length:=by omega
             have hT:=HI.out
             rw [List.take_length] at hT
             have HTa:=hide hT
             obtain ⟨y6,hy6⟩:∃ y6,y6=u6:=⟨_,rfl⟩
             have HSc:=hide (show Calls Tryz.prog 33 #[.string ⟨#[114,101,112,108,97,99,101]⟩,u6,.bool blk] wr (SecR (secS rpW (c.reps.map (fun r=>itP (repI r))) blk) wr) from
               section_any rpW (c.reps.map (fun r=>itP (repI r))) u6 blk wr hT.row (by decide) (by rw [List.length_map];omega) (its_len c HF.out).2.2.1)
             have hlp:(listS5 c blk).length≤203:=by exact hln2
             have hls:(secS rpW (c.reps.map (fun r=>itP (repI r))) blk).length≤100:=secS_count _ _ _ (by rw [List.length_map];omega)
             have hln3:(listS6 c blk).length≤303:=by unfold listS6;rw [List.length_append];omega
             have HM:=hide (And.intro (show (listS5 c blk).length+(secS rpW (c.reps.map (fun r=>itP (repI r))) blk).length≤maxLen from by unfold maxLen;omega) (show ((listS5 c blk).length+(secS rpW (c.reps.map (fun r=>itP (repI r))) blk).length) * 16≤140737488355328 from by omega))
             have bl:=hT.below.size
             clear hT HI hlp hls hy6 y6
             go_wp2_with fail
             go_fit HSc.out
             rintro e x5 ⟨us,rfl,hb5,ho5⟩
             have HTb:=hide (HTa.out.step hb5)
             have HU:=hide ho5
             have bl5:=hb5.size
             clear hb5 ho5 HSc HTa
             go_wp2_with (at_builtin;refine wpList_append_any rfl _ _ _ rfl w.heap.size 9 i0 _ 1 16 Tryz.und_strs hi0 hz0 hz1 hz2 rfl (by omega) _ _ _ (by rfl) HTb.out.list wr.heap.size _ _ _ (by rfl) HU.out (by simp [strL,Value.oneCell']) HM.out.1 HM.out.2 HTb.out.below.size ?_;intro u33 w7 hown7 hk7;have HT14:=hide (HTb.out.sec hk7 (show listS6 c blk=(listS5 c blk)++secS rpW (c.reps.map (fun r=>itP (repI r))) blk from rfl) hown7);have gn3:w7.cell? ⟨w.heap.size,6,none⟩=some (.slice a4 c.rets.length p4):=HT14.out.blk.cell 6 rfl;clear hk7 hown7)
             clear HTb HU HM bl5 bl hj hge
             go_loopg [6,114] c.rets.length (fun k y6 yx wr=>∃ j:Nat,j+k=c.rets.length∧yx=.int .i64 (j:Int)∧Hid (TxI w wr #[.string s1,.string s2,.string s3,.slice a1 c.reqs.length p1,.slice a2 c.excs.length p2,.slice a3 c.reps.length p3,.slice a4 c.rets.length p4,.slice a5 c.tools.length p5,.slice a6 c.igns.length p6] u33 (listS6 c blk) ((c.rets.take j).map (fun r=>itP (retI r))) y6 j))
             case atStart=>exact ⟨0,by omega,by simp,by simpa using HT14⟩
             case round =>
               obtain ⟨j,hj,rfl,HI⟩:=hrel
               rcases Nat.lt_or_ge j c.rets.length with hlt | hge
               · have hr:c.rets[j]?=some c.rets[j]:=List.getElem?_eq_getElem hlt
                 obtain ⟨b,o,rfl,hcell⟩:=HX4.out j (retV c.rets[j]) (by rw [List.getElem?_map,hr];rfl)
                 have HTK:=hide (show (c.rets.take (j+1)).map (fun r=>itP (retI r))=(c.rets.take j).map (fun r=>itP (retI r))++[itP (retI c.rets[j])] from take_map hlt)
                 have hok:=HF.out.rets c.rets[j] (List.getElem_mem hlt)
                 have HOK:=hide hok
                 clear hok
                 generalize c.rets[j]=r at hcell HTK HOK
                 have c0:w.cell? ⟨b,o+j * 3,none⟩=some (.string (mkS r.lo)):=hcell 0 _ rfl
                 have c1:w.cell? ⟨b,o+j * 3+1,none⟩=some (.string (mkS r.hi)):=hcell 1 _ rfl
                 have c2:w.cell? ⟨b,o+j * 3+2,none⟩=some (.string (mkS r.why)):=hcell 2 _ rfl
                 have k0:=(HI.out.below.cell (World.block_lt_of_cell? w _ c0)).trans c0
                 have k1:=(HI.out.below.cell (World.block_lt_of_cell? w _ c1)).trans c1
                 have k2:=(HI.out.below.cell (World.block_lt_of_cell? w _ c2)).trans c2
                 have bl:=HI.out.below.size
                 have bl0:=World.block_lt_of_cell? w _ c0
                 have j0:(0:Int)≤(j:Int):=by omega
                 have j1:(j:Int) < (c.rets.length:Int):=by omega
                 have HM:=hide (And.intro (show j+1≤maxLen from by unfold maxLen;omega) (show (j+1) * 32≤140737488355328 from by omega))
                 clear hcell hr c0 c1 c2
                 have HI0:=hide (HI.out.step ((Below.refl _ wr).alloc (Nat.le_refl _) (Obj.cells #[.string (mkS r.lo),.string (mkS r.hi),.string (mkS r.why)] 53)))
                 have HE0:=hide (Blk.new wr 53 #[.string (mkS r.lo),.string (mkS r.hi),.string (mkS r.why)])
                 go_wp2_with fail
                 clear HI
                 generalize wr.alloc (Obj.cells #[.string (mkS r.lo),.string (mkS r.hi),.string (mkS r.why)] 53)=W0 at HI0 HE0 ⊢
                 obtain ⟨eb,heb⟩:∃ eb,eb=wr.heap.size:=⟨_,rfl⟩
                 rw [← heb] at HE0 ⊢
                 have hebw:eb < W0.heap.size:=HE0.out.lt
                 clear heb
                 have e0:W0.cell? ⟨eb,0,none⟩=some (.string (mkS r.lo)):=HE0.out.cell 0 rfl
                 have e1:W0.cell? ⟨eb,1,none⟩=some (.string (mkS r.hi)):=HE0.out.cell 1 rfl
                 have e2:W0.cell? ⟨eb,2,none⟩=some (.string (mkS r.why)):=HE0.out.cell 2 rfl
                 go_region_held3 (fun w'=>w'.cell? ⟨eb,0,none⟩=some (.string (mkS r.lo))∧w'.cell? ⟨eb,1,none⟩=some (.string (mkS r.hi))∧w'.cell? ⟨eb,2,none⟩=some (.string (mkS r.why))) (go_keep)
                   (first
                     | (go_at_call 36;go_must ((go_fit (retractText_any r _ (by have:=HOK.out.1.all.1;omega) (by have:=HOK.out.2.1.all.1;omega)));(rintro e x1 ⟨rfl,hw1⟩);(have hy1:Below W0.heap.size W0 x1:=(Below.refl _ _).drew.trans hw1);(have hE1:=HE0.out.kept (Kp.of_below (X:=fun _=>False) hy1) (fun h=>h));(have e10:x1.cell? ⟨eb,0,none⟩=some (.string (mkS r.lo)):=hE1.cell 0 rfl);(have e11:x1.cell? ⟨eb,1,none⟩=some (.string (mkS r.hi)):=hE1.cell 1 rfl);(have e12:x1.cell? ⟨eb,2,none⟩=some (.string (mkS r.why)):=hE1.cell 2 rfl);(have HE1:=hide hE1);(have HI1:=hide (HI0.out.step hy1));(clear hw1 hy1 hE1)))
                     | (have _t:=HI1;clear _t;refine step_append_lies _ (by rfl) _ _ _ (by rfl) w.heap.size 59 ii _ 2 32 Tryz.und_items hii hzi hyy2 hyy3 hzic (by omega) _ j _ (by rfl) (HI1.out.items.alloc _) ⟨x1.heap.size,0,none⟩ 1 1 [.string (mkS r.why),.string (mkS (itmT (retI r)))] (by rfl) (by rfl) (news_one _ _ _) (by simp [Value.oneCell']) (by omega) HM.out.1 HM.out.2 (by have:=HI1.out.below.size;simp;omega) (x1.heap.size+1) (by simp) ?_;intro gg gc w3 hown3 hgrow3 hat3 hlt3;have hk3:=Ku.of_append (S:=fun _ u=>u=59) (HI1.out.items.alloc _) hgrow3 (by have:=HI1.out.below.size;simp;omega) (fun _ _=>rfl);have hE3:=(HE1.out.alloc _).keptU hk3 (by decide);have e30:w3.cell? ⟨eb,0,none⟩=some (.string (mkS r.lo)):=hE3.cell 0 rfl;have e31:w3.cell? ⟨eb,1,none⟩=some (.string (mkS r.hi)):=hE3.cell 1 rfl;have e32:w3.cell? ⟨eb,2,none⟩=some (.string (mkS r.why)):=hE3.cell 2 rfl;have HN3:=hide ((HI1.out.step ((Below.refl _ _).alloc (Nat.le_refl _) _)).item hk3 hown3 (by simp only [itP,itV,ret_why]) HTK.out);clear hown3 hgrow3 hat3 hlt3 hk3 hE3))
                 all_goals go_wp2_with fail
                 all_goals go_roundg (c.rets.length - (j+1))
                 all_goals first | exact ⟨j+1,by omega,by simp,HN3⟩ | omega
               · obtain rfl:j=c.rets.length:=by omega
                 have hT:=HI.out
                 rw [List.take_length] at hT
                 have HTa:=hide hT
                 obtain ⟨y6,hy6⟩:∃ y6,y6=u6:=⟨_,rfl⟩
                 have HSc:=hide (show Calls Tryz.prog 33 #[.string ⟨#[114,101,116,114,97,99,116]⟩,u6,.bool blk] wr (SecR (secS rtW (c.rets.map (fun r=>itP (retI r))) blk) wr) from
                   section_any rtW (c.rets.map (fun r=>itP (retI r))) u6 blk wr hT.row (by decide) (by rw [List.length_map];omega) (its_len c HF.out).2.2.2.1)
                 have hlp:(listS6 c blk).length≤303:=by exact hln3
                 have hls:(secS rtW (c.rets.map (fun r=>itP (retI r))) blk).length≤100:=secS_count _ _ _ (by rw [List.length_map];omega)
                 have hln4:(listS7 c blk).length≤403:=by unfold listS7;rw [List.length_append];omega
                 have HM:=hide (And.intro (show (listS6 c blk).length+(secS rtW (c.rets.map (fun r=>itP (retI r))) blk).length≤maxLen from by unfold maxLen;omega) (show ((listS6 c blk).length+(secS rtW (c.rets.map (fun r=>itP (retI r))) blk).length) * 16≤140737488355328 from by omega))
                 have bl:=hT.below.size
                 clear hT HI hlp hls hy6 y6
                 go_wp2_with fail
                 go_fit HSc.out
                 rintro e x5 ⟨us,rfl,hb5,ho5⟩
                 have HTb:=hide (HTa.out.step hb5)
                 have HU:=hide ho5
                 have bl5:=hb5.size
                 clear hb5 ho5 HSc HTa
                 go_wp2_with (at_builtin;refine wpList_append_any rfl _ _ _ rfl w.heap.size 9 i0 _ 1 16 Tryz.und_strs hi0 hz0 hz1 hz2 rfl (by omega) _ _ _ (by rfl) HTb.out.list wr.heap.size _ _ _ (by rfl) HU.out (by simp [strL,Value.oneCell']) HM.out.1 HM.out.2 HTb.out.below.size ?_;intro u34 w7 hown7 hk7;have HT17:=hide (HTb.out.sec hk7 (show listS7 c blk=(listS6 c blk)++secS rtW (c.rets.map (fun r=>itP (retI r))) blk from rfl) hown7);have gn4:w7.cell? ⟨w.heap.size,7,none⟩=some (.slice a5 c.tools.length p5):=HT17.out.blk.cell 7 rfl;clear hk7 hown7)
                 clear HTb HU HM bl5 bl hj hge
                 go_loopg [6,135] c.tools.length (fun k y6 yx wr=>∃ j:Nat,j+k=c.tools.length∧yx=.int .i64 (j:Int)∧Hid (TxI w wr #[.string s1,.string s2,.string s3,.slice a1 c.reqs.length p1,.slice a2 c.excs.length p2,.slice a3 c.reps.length p3,.slice a4 c.rets.length p4,.slice a5 c.tools.length p5,.slice a6 c.igns.length p6] u34 (listS7 c blk) ((c.tools.take j).map (fun r=>itP (pthI r))) y6 j))
                 case atStart=>exact ⟨0,by omega,by simp,by simpa using HT17⟩
                 case round =>
                   obtain ⟨j,hj,rfl,HI⟩:=hrel
                   rcases Nat.lt_or_ge j c.tools.length with hlt | hge
                   · have hr:c.tools[j]?=some c.tools[j]:=List.getElem?_eq_getElem hlt
                     obtain ⟨b,o,rfl,hcell⟩:=HX5.out j (strV c.tools[j]) (by rw [List.getElem?_map,hr];rfl)
                     have HTK:=hide (show (c.tools.take (j+1)).map (fun r=>itP (pthI r))=(c.tools.take j).map (fun r=>itP (pthI r))++[itP (pthI c.tools[j])] from take_map hlt)
                     have hok:=HF.out.tools c.tools[j] (List.getElem_mem hlt)
                     have HOK:=hide hok
                     clear hok
                     generalize c.tools[j]=r at hcell HTK HOK
                     have c0:w.cell? ⟨b,o+j,none⟩=some (.string (mkS r)):=by simpa using hcell 0 _ rfl
                     have k0:=(HI.out.below.cell (World.block_lt_of_cell? w _ c0)).trans c0
                     have bl:=HI.out.below.size
                     have bl0:=World.block_lt_of_cell? w _ c0
                     have j0:(0:Int)≤(j:Int):=by omega
                     have j1:(j:Int) < (c.tools.length:Int):=by omega
                     have HM:=hide (And.intro (show j+1≤maxLen from by unfold maxLen;omega) (show (j+1) * 32≤140737488355328 from by omega))
                     clear hcell hr c0
                     go_wp2_with (at_builtin;refine wpList_append_lies _ rfl _ _ _ rfl w.heap.size 59 ii _ 2 32 Tryz.und_items hii hzi hyy2 hyy3 hzic (by omega) _ j _ (by rfl) (HI.out.items.alloc _) ⟨wr.heap.size,0,none⟩ 1 1 [.string ⟨#[]⟩,.string (mkS r)] (by rfl) (by rfl) (news_one _ _ _) (by simp [Value.oneCell']) (by omega) HM.out.1 HM.out.2 (by have:=HI.out.below.size;simp;omega) (wr.heap.size+1) (by simp) ?_;intro gg gc w3 hown3 hgrow3 hat3 hlt3;have hk3:=Ku.of_append (S:=fun _ u=>u=59) (HI.out.items.alloc _) hgrow3 (by have:=HI.out.below.size;simp;omega) (fun _ _=>rfl);have HN3:=hide ((HI.out.step ((Below.refl _ _).alloc (Nat.le_refl _) _)).item hk3 hown3 (by simp only [itP,itV,pth_txt];rfl) HTK.out);clear hown3 hgrow3 hat3 hlt3 hk3)
                     go_roundg (c.tools.length - (j+1))
                     case measure=>omega
                     case rel=>exact ⟨j+1,by omega,by simp,HN3⟩
                   · obtain rfl:j=c.tools.length:=by omega
                     have hT:=HI.out
                     rw [List.take_length] at hT
                     have HTa:=hide hT
                     obtain ⟨y6,hy6⟩:∃ y6,y6=u6:=⟨_,rfl⟩
                     have HSc:=hide (show Calls Tryz.prog 33 #[.string ⟨#[116,111,111,108]⟩,u6,.bool blk] wr (SecR (secS toW (c.tools.map (fun r=>itP (pthI r))) blk) wr) from
                       section_any toW (c.tools.map (fun r=>itP (pthI r))) u6 blk wr hT.row (by decide) (by rw [List.length_map];omega) (its_len c HF.out).2.2.2.2.1)
                     have hlp:(listS7 c blk).length≤403:=by exact hln4
                     have hls:(secS toW (c.tools.map (fun r=>itP (pthI r))) blk).length≤100:=secS_count _ _ _ (by rw [List.length_map];omega)
                     have hln5:(listS8 c blk).length≤503:=by unfold listS8;rw [List.length_append];omega
                     have HM:=hide (And.intro (show (listS7 c blk).length+(secS toW (c.tools.map (fun r=>itP (pthI r))) blk).length≤maxLen from by unfold maxLen;omega) (show ((listS7 c blk).length+(secS toW (c.tools.map (fun r=>itP (pthI r))) blk).length) * 16≤140737488355328 from by omega))
                     have bl:=hT.below.size
                     clear hT HI hlp hls hy6 y6
                     go_wp2_with fail
                     go_fit HSc.out
                     rintro e x5 ⟨us,rfl,hb5,ho5⟩
                     have HTb:=hide (HTa.out.step hb5)
                     have HU:=hide ho5
                     have bl5:=hb5.size
                     clear hb5 ho5 HSc HTa
                     go_wp2_with (at_builtin;refine wpList_append_any rfl _ _ _ rfl w.heap.size 9 i0 _ 1 16 Tryz.und_strs hi0 hz0 hz1 hz2 rfl (by omega) _ _ _ (by rfl) HTb.out.list wr.heap.size _ _ _ (by rfl) HU.out (by simp [strL,Value.oneCell']) HM.out.1 HM.out.2 HTb.out.below.size ?_;intro u35 w7 hown7 hk7;have HT20:=hide (HTb.out.sec hk7 (show listS8 c blk=(listS7 c blk)++secS toW (c.tools.map (fun r=>itP (pthI r))) blk from rfl) hown7);have gn5:w7.cell? ⟨w.heap.size,8,none⟩=some (.slice a6 c.igns.length p6):=HT20.out.blk.cell 8 rfl;clear hk7 hown7)
                     clear HTb HU HM bl5 bl hj hge
                     go_loopg [6,153] c.igns.length (fun k y6 yx wr=>∃ j:Nat,j+k=c.igns.length∧yx=.int .i64 (j:Int)∧Hid (TxI w wr #[.string s1,.string s2,.string s3,.slice a1 c.reqs.length p1,.slice a2 c.excs.length p2,.slice a3 c.reps.length p3,.slice a4 c.rets.length p4,.slice a5 c.tools.length p5,.slice a6 c.igns.length p6] u35 (listS8 c blk) ((c.igns.take j).map (fun r=>itP (pthI r))) y6 j))
                     case atStart=>exact ⟨0,by omega,by simp,by simpa using HT20⟩
                     case round =>
                       obtain ⟨j,hj,rfl,HI⟩:=hrel
                       rcases Nat.lt_or_ge j c.igns.length with hlt | hge
                       · have hr:c.igns[j]?=some c.igns[j]:=List.getElem?_eq_getElem hlt
                         obtain ⟨b,o,rfl,hcell⟩:=HX6.out j (strV c.igns[j]) (by rw [List.getElem?_map,hr];rfl)
                         have HTK:=hide (show (c.igns.take (j+1)).map (fun r=>itP (pthI r))=(c.igns.take j).map (fun r=>itP (pthI r))++[itP (pthI c.igns[j])] from take_map hlt)
                         have hok:=HF.out.igns c.igns[j] (List.getElem_mem hlt)
                         have HOK:=hide hok
                         clear hok
                         generalize c.igns[j]=r at hcell HTK HOK
                         have c0:w.cell? ⟨b,o+j,none⟩=some (.string (mkS r)):=by simpa using hcell 0 _ rfl
                         have k0:=(HI.out.below.cell (World.block_lt_of_cell? w _ c0)).trans c0
                         have bl:=HI.out.below.size
                         have bl0:=World.block_lt_of_cell? w _ c0
                         have j0:(0:Int)≤(j:Int):=by omega
                         have j1:(j:Int) < (c.igns.length:Int):=by omega
                         have HM:=hide (And.intro (show j+1≤maxLen from by unfold maxLen;omega) (show (j+1) * 32≤140737488355328 from by omega))
                         clear hcell hr c0
                         go_wp2_with (at_builtin;refine wpList_append_lies _ rfl _ _ _ rfl w.heap.size 59 ii _ 2 32 Tryz.und_items hii hzi hyy2 hyy3 hzic (by omega) _ j _ (by rfl) (HI.out.items.alloc _) ⟨wr.heap.size,0,none⟩ 1 1 [.string ⟨#[]⟩,.string (mkS r)] (by rfl) (by rfl) (news_one _ _ _) (by simp [Value.oneCell']) (by omega) HM.out.1 HM.out.2 (by have:=HI.out.below.size;simp;omega) (wr.heap.size+1) (by simp) ?_;intro gg gc w3 hown3 hgrow3 hat3 hlt3;have hk3:=Ku.of_append (S:=fun _ u=>u=59) (HI.out.items.alloc _) hgrow3 (by have:=HI.out.below.size;simp;omega) (fun _ _=>rfl);have HN3:=hide ((HI.out.step ((Below.refl _ _).alloc (Nat.le_refl _) _)).item hk3 hown3 (by simp only [itP,itV,pth_txt];rfl) HTK.out);clear hown3 hgrow3 hat3 hlt3 hk3)
                         go_roundg (c.igns.length - (j+1))
                         case measure=>omega
                         case rel=>exact ⟨j+1,by omega,by simp,HN3⟩
                       · obtain rfl:j=c.igns.length:=by omega
                         have hT:=HI.out
                         rw [List.take_length] at hT
                         have HTa:=hide hT
                         obtain ⟨y6,hy6⟩:∃ y6,y6=u6:=⟨_,rfl⟩
                         have HSc:=hide (show Calls Tryz.prog 33 #[.string ⟨#[105,103,110,111,114,101]⟩,u6,.bool blk] wr (SecR (secS igW (c.igns.map (fun r=>itP (pthI r))) blk) wr) from
                           section_any igW (c.igns.map (fun r=>itP (pthI r))) u6 blk wr hT.row (by decide) (by rw [List.length_map];omega) (its_len c HF.out).2.2.2.2.2)
                         have hlp:(listS8 c blk).length≤503:=by exact hln5
                         have hls:(secS igW (c.igns.map (fun r=>itP (pthI r))) blk).length≤100:=secS_count _ _ _ (by rw [List.length_map];omega)
                         have hln6:(listS c blk).length≤603:=by unfold listS;rw [List.length_append];omega
                         have HM:=hide (And.intro (show (listS8 c blk).length+(secS igW (c.igns.map (fun r=>itP (pthI r))) blk).length≤maxLen from by unfold maxLen;omega) (show ((listS8 c blk).length+(secS igW (c.igns.map (fun r=>itP (pthI r))) blk).length) * 16≤140737488355328 from by omega))
                         have bl:=hT.below.size
                         clear hT HI hlp hls hy6 y6
                         go_wp2_with fail
                         go_fit HSc.out
                         rintro e x5 ⟨us,rfl,hb5,ho5⟩
                         have HTb:=hide (HTa.out.step hb5)
                         have HU:=hide ho5
                         have bl5:=hb5.size
                         clear hb5 ho5 HSc HTa
                         go_wp2_with (at_builtin;refine wpList_append_any rfl _ _ _ rfl w.heap.size 9 i0 _ 1 16 Tryz.und_strs hi0 hz0 hz1 hz2 rfl (by omega) _ _ _ (by rfl) HTb.out.list wr.heap.size _ _ _ (by rfl) HU.out (by simp [strL,Value.oneCell']) HM.out.1 HM.out.2 HTb.out.below.size ?_;intro u36 w7 hown7 hk7;have HT23:=hide (HTb.out.sec hk7 (show listS c blk=(listS8 c blk)++secS igW (c.igns.map (fun r=>itP (pthI r))) blk from rfl) hown7);have hlen9:(listS8 c blk).length+(secS igW (c.igns.map (fun r=>itP (pthI r))) blk).length=(listS c blk).length:=(by unfold listS;rw [List.length_append]);obtain ⟨la,lc,e9⟩:=owns_any hown7;rw [hlen9] at e9;subst e9;clear hown7 hlen9;clear hk7)
                         clear HTb HU HM bl5 bl hj hge
                         have HBD:=hide (listS_bound c HF.out blk)
                         have hxl:(listS c blk).length≤603:=hln6
                         have HTz:=hide HT23.out
                         clear hln1 hln2 hln3 hln4 hln5 hln6 HT23
                         generalize hxs:listS c blk=xs at HBD hxl HTz
                         have HXE:=hide hxs
                         clear hxs
                         go_loopg [19,170] xs.length (fun k y19 yx wr=>w7=wr∧∃ (j:Nat) (L:ByteArray),j+k=xs.length∧yx=.int .i64 (j:Int)∧y19=.string L∧L.size≤600000 * j∧Hid (bsl L=joinS (xs.take j)))
                         case atStart=>exact ⟨rfl,0,⟨#[]⟩,by omega,by simp,rfl,by simp [ByteArray.size],hide rfl⟩
                         case round =>
                           obtain ⟨rfl,j,L,hj,rfl,rfl,hLs,HJ⟩:=hrel
                           rcases Nat.lt_or_ge j xs.length with hlt | hge
                           · have hr:xs[j]?=some xs[j]:=List.getElem?_eq_getElem hlt
                             obtain ⟨b,rfl,hcell⟩:=row_str HTz.out.list hr
                             have hbd:=HBD.out xs[j] (List.getElem_mem hlt)
                             have HTK:=hide (show xs.take (j+1)=xs.take j++[xs[j]] from by rw [List.take_add_one,hr];rfl)
                             obtain ⟨t,ht⟩:∃ t,t=mkS xs[j]:=⟨_,rfl⟩
                             have hts:t.size≤500000:=by rw [ht,mkS_size];exact hbd
                             rw [← ht] at hcell
                             have HTQ:=hide (show bsl t=xs[j] from by rw [ht];rfl)
                             have j0:(0:Int)≤(j:Int):=by omega
                             have j1:(j:Int) < (xs.length:Int):=by omega
                             clear ht hbd hr
                             generalize xs[j]=x at HTK HTQ
                             rcases hjz:j with _ | n
                             · subst hjz
                               go_wp2_with fail
                               go_roundg (xs.length - (0+1))
                               case measure=>omega
                               case rel =>
                                 refine ⟨rfl,1,_,by omega,by simp,rfl,?_,hide ?_⟩
                                 · rw [size_app];omega
                                 · have e:=HTK.out
                                   rw [bsl_append,HJ.out,e,HTQ.out]
                                   simp [joinS]
                             · subst hjz
                               go_wp2_with fail
                               go_roundg (xs.length - (n+1+1))
                               case measure=>omega
                               case rel =>
                                 refine ⟨rfl,n+1+1,_,by omega,by simp,rfl,?_,hide ?_⟩
                                 · simp only [size_app,lit1];omega
                                 · have e:=HTK.out
                                   rw [e,joinS_snoc _ _ (by intro h0;have h1:=congrArg List.length h0;rw [List.length_take] at h1;simp only [List.length_nil] at h1;omega),← HJ.out,← HTQ.out]
                                   simp only [bsl_append]
                                   simp [bsl]
                           · obtain rfl:j=xs.length:=by omega
                             have hJ:=HJ.out
                             rw [List.take_length] at hJ
                             have HJ2:=hide hJ
                             clear hJ
                             go_wp2_with fail
                             go_ret
                             exact strR_of HTz.out.below (HJ2.out.trans (congrArg joinS HXE.out.symm))
end
end Go.Proofs.YtifkpibjeamfkaaGreatFmt
