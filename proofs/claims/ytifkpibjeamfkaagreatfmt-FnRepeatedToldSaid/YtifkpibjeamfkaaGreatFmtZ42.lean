/-
  The reference's ContentOk.
-/
import Derived.Test.YtifkpibjeamfkaaGreatFmtZ41
set_option linter.unusedVariables false
set_option linter.unusedSimpArgs false
set_option maxRecDepth 100000
namespace Go.Proofs.YtifkpibjeamfkaaGreatFmt
section
open Go.RowKit Go.Proofs
theorem gof_nice {l:List UInt8} (h:GoF l) (h50:l.length≤50):NiceL l:=nice_of l h.pos (by omega) (fun c hc=>by
 have:=wdc_bd (h.chars c hc)
 refine ⟨?_,by omega⟩
 have hw:=h.chars c hc
 simp only [wdc,Bool.or_eq_true] at hw
 simp only [wch2,wch,Bool.or_eq_true]
 rcases hw with (h | h) | h
 · exact Or.inl (Or.inl (Or.inl (Or.inl h)))
 · exact Or.inl (Or.inl (Or.inl (Or.inr h)))
 · exact Or.inl (Or.inl (Or.inr h)))
theorem word_nice {l:List UInt8} (h:WordF (mkS l)):NiceL l:=nice_of l (by have:=h.pos;rwa [mkS_size] at this) (by have:=(word_chars h).1;omega) (fun c hc=>by
 have hw:=(word_chars h).2 c hc
 have:=wdc_bd hw
 refine ⟨?_,by omega⟩
 simp only [wdc,Bool.or_eq_true] at hw
 simp only [wch2,wch,Bool.or_eq_true]
 rcases hw with (h | h) | h
 · exact Or.inl (Or.inl (Or.inl (Or.inl h)))
 · exact Or.inl (Or.inl (Or.inl (Or.inr h)))
 · exact Or.inl (Or.inl (Or.inr h)))
theorem run_max6 (ts:Array TypeId) (t:TypeId) (x1 x2 x3 x4 x5 x6:Int):∃ m:Int,(∀ w:World,(Builtin.max_ ts t #[.int .i64 x1,.int .i64 x2,.int .i64 x3,.int .i64 x4,.int .i64 x5,.int .i64 x6]).run Tryz.prog w=.ok (.int .i64 m) w)∧x1≤m∧x2≤m∧x3≤m∧x4≤m∧x5≤m∧x6≤m:=by
 have e:∀ x y:Int,(if y > x then y else x)=max x y:=by
   intro x y
   rw [Int.max_def]
   split <;> split <;> omega
 refine ⟨max (max (max (max (max x1 x2) x3) x4) x5) x6,fun w=>?_,by omega,by omega,by omega,by omega,by omega,by omega⟩
 simp [Builtin.max_,Builtin.max2,e]
def Ok1 (c:Cont):Prop:=PathF (mkS c.mod)∧(c.go=[]∨NiceL c.go)∧(c.tc=[]∨NiceL c.tc)
set_option maxHeartbeats 16000000 in
theorem contentOk_any (c:Cont) (v1 v2 v3 v4 v5 v6:Value) (w:World) (h:ContV w c v1 v2 v3 v4 v5 v6) (hf:FitsC c):Calls Tryz.prog 8 #[contV' c v1 v2 v3 v4 v5 v6] w (SaysB (ContF c) w):=by
 obtain ⟨r1,r2,r3,r4,r5,r6⟩:=h
 obtain ⟨a1,p1,rfl,hc1,hx1⟩:=r1
 obtain ⟨a2,p2,rfl,hc2,hx2⟩:=r2
 obtain ⟨a3,p3,rfl,hc3,hx3⟩:=r3
 obtain ⟨a4,p4,rfl,hc4,hx4⟩:=r4
 obtain ⟨a5,p5,rfl,hc5,hx5⟩:=r5
 obtain ⟨a6,p6,rfl,hc6,hx6⟩:=r6
 simp only [List.length_map] at hc1 hc2 hc3 hc4 hc5 hc6 hx1 hx2 hx3 hx4 hx5 hx6 ⊢
 have HX1:=hide hx1
 have HX2:=hide hx2
 have HX3:=hide hx3
 have HX4:=hide hx4
 have HX5:=hide hx5
 have HX6:=hide hx6
 obtain ⟨z2,hz2,hn2,_⟩:=empty_bool c.go
 obtain ⟨z3,hz3,hn3,_⟩:=empty_bool c.tc
 obtain ⟨s1,hs1⟩:∃ s,s=mkS c.mod:=⟨_,rfl⟩
 obtain ⟨s2,hs2⟩:∃ s,s=mkS c.go:=⟨_,rfl⟩
 obtain ⟨s3,hs3⟩:∃ s,s=mkS c.tc:=⟨_,rfl⟩
 have l1:s1.size≤2147483647:=hs1 ▸ sz_mkS hf.mod
 have l2:s2.size≤2147483647:=hs2 ▸ sz_mkS hf.go
 have l3:s3.size≤2147483647:=hs3 ▸ sz_mkS hf.tc
 rw [← hs2] at hz2
 rw [← hs3] at hz3
 unfold contV'
 rw [← hs1,← hs2,← hs3]
 have P1:=hide (show PathF s1→PathF (mkS c.mod) from fun h=>hs1 ▸ h)
 have P2:=hide (show GoF (bsl s2)→s2.size≤50→NiceL c.go from fun h h5=>by rw [hs2] at h h5;rw [mkS_size] at h5;exact gof_nice h h5)
 have P3:=hide (show WordF s3→NiceL c.tc from fun h=>by rw [hs3] at h;exact word_nice h)
 have N2:=hide hn2
 have N3:=hide hn3
 have HF:=hide hf
 have HS:=hide (show ∀ b:Bool,(b=true→ContF c)→∀ w',Below w.heap.size w w'→SaysB (ContF c) w (.returned (.bool b)) w' from fun b h w' h'=>⟨⟨b,rfl,h⟩,h'⟩)
 have q1:=hf.r1.1
 have q2:=hf.r2.1
 have q3:=hf.r3.1
 have q4:=hf.r4.1
 have q5:=hf.r5.1
 have q6:=hf.r6.1
 clear hs1 hs2 hs3 hn2 hn3 hx1 hx2 hx3 hx4 hx5 hx6 hf
 have HK0:=hide (Blk.new w 28 #[.string s1,.string s2,.string s3,.slice a1 c.reqs.length p1,.slice a2 c.excs.length p2,.slice a3 c.reps.length p3,.slice a4 c.rets.length p4,.slice a5 c.tools.length p5,.slice a6 c.igns.length p6])
 have HB0:=hide ((Below.refl w.heap.size w).alloc (Nat.le_refl _) (Obj.cells #[.string s1,.string s2,.string s3,.slice a1 c.reqs.length p1,.slice a2 c.excs.length p2,.slice a3 c.reps.length p3,.slice a4 c.rets.length p4,.slice a5 c.tools.length p5,.slice a6 c.igns.length p6] 28))
 go_enter Tryz.func8,Tryz.ntmps8
 go_upto_region 1 with fail
 generalize w.alloc (Obj.cells #[.string s1,.string s2,.string s3,.slice a1 c.reqs.length p1,.slice a2 c.excs.length p2,.slice a3 c.reps.length p3,.slice a4 c.rets.length p4,.slice a5 c.tools.length p5,.slice a6 c.igns.length p6] 28)=W at HK0 HB0 ⊢
 go_cut [52] (fun x wx=>∃ b:Bool,x=.bool b∧Hid (b=false→Ok1 c)∧Hid (Below w.heap.size w wx)∧Hid (Blk wx w.heap.size 28 #[.string s1,.string s2,.string s3,.slice a1 c.reqs.length p1,.slice a2 c.excs.length p2,.slice a3 c.reps.length p3,.slice a4 c.rets.length p4,.slice a5 c.tools.length p5,.slice a6 c.igns.length p6]))
 case first =>
   have k0:W.cell? ⟨w.heap.size,0,none⟩=some (.string s1):=HK0.out.cell 0 rfl
   go_wp2_with fail
   refine (pathOk_any s1 _ l1).mono ?_
   rintro e w1 ⟨⟨b1,rfl,hb1⟩,hw1⟩
   have HK1:=hide (HK0.out.kept (Kp.of_below (X:=fun _=>False) hw1) (fun h=>h))
   have HB1:=hide (HB0.out.trans (hw1.mono HB0.out.size))
   have y11:w1.cell? ⟨w.heap.size,1,none⟩=some (.string s2):=HK1.out.cell 1 rfl
   have y12:w1.cell? ⟨w.heap.size,2,none⟩=some (.string s3):=HK1.out.cell 2 rfl
   have HQ1:=hide hb1
   clear hb1 hw1
   cases b1 with
   | false =>
     go_wp2_with fail
     go_meet
     exact ⟨true,rfl,hide (fun h=>by cases h),HB1,HK1⟩
   | true =>
     have HP1:=hide (HQ1.out rfl)
     cases z2 with
     | true =>
       have E2:=hide (N2.out rfl)
       cases z3 with
       | true =>
         have E3:=hide (N3.out rfl)
         go_wp2_with fail
         go_meet
         exact ⟨_,rfl,hide (fun _=>⟨P1.out HP1.out,Or.inl E2.out,Or.inl E3.out⟩),HB1,HK1⟩
       | false =>
         go_wp2_with fail
         go_fit (toolchain_any s3 _ l3)
         rintro e w7 ⟨⟨b7,rfl,hb7⟩,hw7⟩
         have HK7:=hide (HK1.out.kept (Kp.of_below (X:=fun _=>False) hw7) (fun h=>h))
         have HB7:=hide (HB1.out.trans (hw7.mono HB1.out.size))
         have y71:w7.cell? ⟨w.heap.size,1,none⟩=some (.string s2):=HK7.out.cell 1 rfl
         have y72:w7.cell? ⟨w.heap.size,2,none⟩=some (.string s3):=HK7.out.cell 2 rfl
         have HQ7:=hide hb7
         clear hb7 hw7
         cases b7 with
         | false =>
           go_wp2_with fail
           go_meet
           exact ⟨true,rfl,hide (fun h=>by cases h),HB7,HK7⟩
         | true =>
           go_wp2_with fail
           refine (wordOk_any s3 _ l3).mono ?_
           rintro e w8 ⟨⟨b8,rfl,hb8⟩,rfl⟩
           have HQ8:=hide hb8
           clear hb8
           cases b8 with
           | false =>
             go_wp2_with fail
             go_meet
             exact ⟨true,rfl,hide (fun h=>by cases h),HB7,HK7⟩
           | true =>
             have HQt:=hide (HQ8.out rfl)
             go_wp2_with fail
             go_meet
             exact ⟨_,rfl,hide (fun _=>⟨P1.out HP1.out,Or.inl E2.out,Or.inr (P3.out HQt.out)⟩),HB7,HK7⟩
     | false =>
       go_wp2_with fail
       go_fit (goVersion_any s2 _ l2)
       rintro e w2 ⟨⟨b2,rfl,hb2⟩,hw2⟩
       have HK2:=hide (HK1.out.kept (Kp.of_below (X:=fun _=>False) hw2) (fun h=>h))
       have HB2:=hide (HB1.out.trans (hw2.mono HB1.out.size))
       have y21:w2.cell? ⟨w.heap.size,1,none⟩=some (.string s2):=HK2.out.cell 1 rfl
       have y22:w2.cell? ⟨w.heap.size,2,none⟩=some (.string s3):=HK2.out.cell 2 rfl
       have HQ2:=hide hb2
       clear hb2 hw2
       cases b2 with
       | false =>
         go_wp2_with fail
         go_meet
         exact ⟨true,rfl,hide (fun h=>by cases h),HB2,HK2⟩
       | true =>
         have HG2:=hide (HQ2.out rfl)
         by_cases h50:(50:Int) < (s2.size:Int)
         · go_wp2_with fail
           go_meet
           exact ⟨true,rfl,hide (fun h=>by cases h),HB2,HK2⟩
         · skip
           cases z3 with
           | true =>
             have E3:=hide (N3.out rfl)
             go_wp2_with fail
             go_meet
             exact ⟨_,rfl,hide (fun _=>⟨P1.out HP1.out,Or.inr (P2.out HG2.out (by omega)),Or.inl E3.out⟩),HB2,HK2⟩
           | false =>
             go_wp2_with fail
             go_fit (toolchain_any s3 _ l3)
             rintro e w7 ⟨⟨b7,rfl,hb7⟩,hw7⟩
             have HK7:=hide (HK2.out.kept (Kp.of_below (X:=fun _=>False) hw7) (fun h=>h))
             have HB7:=hide (HB2.out.trans (hw7.mono HB2.out.size))
             have y71:w7.cell? ⟨w.heap.size,1,none⟩=some (.string s2):=HK7.out.cell 1 rfl
             have y72:w7.cell? ⟨w.heap.size,2,none⟩=some (.string s3):=HK7.out.cell 2 rfl
             have HQ7:=hide hb7
             clear hb7 hw7
             cases b7 with
             | false =>
               go_wp2_with fail
               go_meet
               exact ⟨true,rfl,hide (fun h=>by cases h),HB7,HK7⟩
             | true =>
               go_wp2_with fail
               refine (wordOk_any s3 _ l3).mono ?_
               rintro e w8 ⟨⟨b8,rfl,hb8⟩,rfl⟩
               have HQ8:=hide hb8
               clear hb8
               cases b8 with
               | false =>
                 go_wp2_with fail
                 go_meet
                 exact ⟨true,rfl,hide (fun h=>by cases h),HB7,HK7⟩
               | true =>
                 have HQt:=hide (HQ8.out rfl)
                 go_wp2_with fail
                 go_meet
                 exact ⟨_,rfl,hide (fun _=>⟨P1.out HP1.out,Or.inr (P2.out HG2.out (by omega)),Or.inr (P3.out HQt.out)⟩),HB7,HK7⟩
 case rest =>
 obtain ⟨b,rfl,HO,HB0,HK0⟩:=hcut
 have j3:wc.cell? ⟨w.heap.size,3,none⟩=some (.slice a1 c.reqs.length p1):=HK0.out.cell 3 rfl
 cases b with
 | true =>
   go_wp2_with fail
   go_ret
   exact HS.out false (fun h=>by cases h) _ HB0.out
 | false =>
   have HO1:=hide (HO.out rfl)
   clear HO
   go_wp2_with fail
   go_loopg [56] c.reqs.length (fun k vx wr=>∃ j:Nat,j+k=c.reqs.length∧vx=.int .i64 (j:Int)∧Hid (Below w.heap.size w wr∧Blk wr w.heap.size 28 #[.string s1,.string s2,.string s3,.slice a1 c.reqs.length p1,.slice a2 c.excs.length p2,.slice a3 c.reps.length p3,.slice a4 c.rets.length p4,.slice a5 c.tools.length p5,.slice a6 c.igns.length p6]∧∀ r ∈ c.reqs.take j,PathF (mkS r.p)∧VerL r.v))
   case atStart=>exact ⟨0,by omega,by simp,hide ⟨HB0.out,HK0.out,by simp⟩⟩
   case round =>
     obtain ⟨j,hj,rfl,HI⟩:=hrel
     rcases Nat.lt_or_ge j c.reqs.length with hlt | hge
     · have hr:c.reqs[j]?=some c.reqs[j]:=List.getElem?_eq_getElem hlt
       obtain ⟨b,o,rfl,hcell⟩:=HX1.out j (reqV c.reqs[j]) (by rw [List.getElem?_map,hr];rfl)
       have HNX:=hide (fun (h:PathF (mkS c.reqs[j].p)∧VerL c.reqs[j].v)=>take_next (p:=fun r=>PathF (mkS r.p)∧VerL r.v) hlt HI.out.2.2 h)
       have hsz:=HF.out.r1.2 c.reqs[j] (List.getElem_mem hlt)
       have HSZ:=hide hsz
       generalize c.reqs[j]=r at hcell HNX HSZ
       clear hsz hr
       have c0:w.cell? ⟨b,o+j * 3,none⟩=some (.string (mkS r.p)):=hcell 0 _ rfl
       have c1:w.cell? ⟨b,o+j * 3+1,none⟩=some (.string (mkS r.v)):=hcell 1 _ rfl
       have c2:w.cell? ⟨b,o+j * 3+2,none⟩=some (.bool r.ind):=hcell 2 _ rfl
       have k0:=(HI.out.1.cell (World.block_lt_of_cell? w _ c0)).trans c0
       have k1:=(HI.out.1.cell (World.block_lt_of_cell? w _ c1)).trans c1
       have k2:=(HI.out.1.cell (World.block_lt_of_cell? w _ c2)).trans c2
       have bl:=HI.out.1.size
       have bl0:=World.block_lt_of_cell? w _ c0
       have j0:(0:Int)≤(j:Int):=by omega
       have j1:(j:Int) < (c.reqs.length:Int):=by omega
       have HA0:=hide (HI.out.1.alloc bl (Obj.cells #[.string (mkS r.p),.string (mkS r.v),.bool r.ind] 46))
       have HC0:=hide (HI.out.2.1.alloc (Obj.cells #[.string (mkS r.p),.string (mkS r.v),.bool r.ind] 46))
       have HE0:=hide (Blk.new wr 46 #[.string (mkS r.p),.string (mkS r.v),.bool r.ind])
       clear hcell c0 c1 c2
       go_wp2_with fail
       generalize wr.alloc (Obj.cells #[.string (mkS r.p),.string (mkS r.v),.bool r.ind] 46)=W0 at HA0 HC0 HE0 ⊢
       refine (pathOk_any (mkS r.p) _ (sz_mkS HSZ.out.1)).mono ?_
       rintro e x1 ⟨⟨b1,rfl,hb1⟩,hw1⟩
       have HA1:=hide (HA0.out.trans (hw1.mono HA0.out.size))
       have HC1:=hide (HC0.out.kept (Kp.of_below (X:=fun _=>False) hw1) (fun h=>h))
       have HE1:=hide (HE0.out.kept (Kp.of_below (X:=fun _=>False) hw1) (fun h=>h))
       have e1:x1.cell? ⟨wr.heap.size,1,none⟩=some (.string (mkS r.v)):=HE1.out.cell 1 rfl
       have HQ1:=hide hb1
       clear hb1 hw1
       cases b1 with
       | false =>
         go_wp2_with fail
         go_ret
         exact HS.out false (fun h=>by cases h) _ HA1.out
       | true =>
         have HQ1t:=hide (HQ1.out rfl)
         go_wp2_with fail
         go_fit (versionOk_any (mkS r.v) _ (sz_mkS HSZ.out.2))
         rintro e x2 ⟨⟨b2,rfl,hb2⟩,hw2⟩
         have HA2:=hide (HA1.out.trans (hw2.mono HA1.out.size))
         have HC2:=hide (HC1.out.kept (Kp.of_below (X:=fun _=>False) hw2) (fun h=>h))
         have HE2:=hide (HE1.out.kept (Kp.of_below (X:=fun _=>False) hw2) (fun h=>h))
         have HQ2:=hide hb2
         clear hb2 hw2
         cases b2 with
         | false =>
           go_wp2_with fail
           go_ret
           exact HS.out false (fun h=>by cases h) _ HA2.out
         | true =>
           have HQ2t:=hide (HQ2.out rfl)
           go_wp2_with fail
           go_roundg (c.reqs.length - (j+1))
           case measure=>omega
           case rel=>exact ⟨j+1,by omega,by simp,hide ⟨HA2.out,HC2.out,HNX.out ⟨HQ1t.out,HQ2t.out⟩⟩⟩
     · obtain rfl:j=c.reqs.length:=by omega
       have HB1:=hide HI.out.1
       have HK1:=hide HI.out.2.1
       have HL1:=hide (show ∀ r ∈ c.reqs,PathF (mkS r.p)∧VerL r.v from by have:=HI.out.2.2;rwa [List.take_length] at this)
       have bl:=HI.out.1.size
       have g1:wr.cell? ⟨w.heap.size,4,none⟩=some (.slice a2 c.excs.length p2):=HK1.out.cell 4 rfl
       clear HI
       go_wp2_with fail
       go_loopg [74] c.excs.length (fun k vx wr=>∃ j:Nat,j+k=c.excs.length∧vx=.int .i64 (j:Int)∧Hid (Below w.heap.size w wr∧Blk wr w.heap.size 28 #[.string s1,.string s2,.string s3,.slice a1 c.reqs.length p1,.slice a2 c.excs.length p2,.slice a3 c.reps.length p3,.slice a4 c.rets.length p4,.slice a5 c.tools.length p5,.slice a6 c.igns.length p6]∧∀ r ∈ c.excs.take j,PathF (mkS r.p)∧VerL r.v))
       case atStart=>exact ⟨0,by omega,by simp,hide ⟨HB1.out,HK1.out,by simp⟩⟩
       case round =>
         obtain ⟨j,hj,rfl,HI⟩:=hrel
         rcases Nat.lt_or_ge j c.excs.length with hlt | hge
         · have hr:c.excs[j]?=some c.excs[j]:=List.getElem?_eq_getElem hlt
           obtain ⟨b,o,rfl,hcell⟩:=HX2.out j (verV c.excs[j]) (by rw [List.getElem?_map,hr];rfl)
           have HNX:=hide (fun (h:PathF (mkS c.excs[j].p)∧VerL c.excs[j].v)=>take_next (p:=fun r=>PathF (mkS r.p)∧VerL r.v) hlt HI.out.2.2 h)
           have hsz:=HF.out.r2.2 c.excs[j] (List.getElem_mem hlt)
           have HSZ:=hide hsz
           generalize c.excs[j]=r at hcell HNX HSZ
           clear hsz hr
           have c0:w.cell? ⟨b,o+j * 2,none⟩=some (.string (mkS r.p)):=hcell 0 _ rfl
           have c1:w.cell? ⟨b,o+j * 2+1,none⟩=some (.string (mkS r.v)):=hcell 1 _ rfl
           have k0:=(HI.out.1.cell (World.block_lt_of_cell? w _ c0)).trans c0
           have k1:=(HI.out.1.cell (World.block_lt_of_cell? w _ c1)).trans c1
           have bl:=HI.out.1.size
           have bl0:=World.block_lt_of_cell? w _ c0
           have j0:(0:Int)≤(j:Int):=by omega
           have j1:(j:Int) < (c.excs.length:Int):=by omega
           have HA0:=hide (HI.out.1.alloc bl (Obj.cells #[.string (mkS r.p),.string (mkS r.v)] 48))
           have HC0:=hide (HI.out.2.1.alloc (Obj.cells #[.string (mkS r.p),.string (mkS r.v)] 48))
           have HE0:=hide (Blk.new wr 48 #[.string (mkS r.p),.string (mkS r.v)])
           clear hcell c0 c1
           go_wp2_with fail
           generalize wr.alloc (Obj.cells #[.string (mkS r.p),.string (mkS r.v)] 48)=W0 at HA0 HC0 HE0 ⊢
           refine (pathOk_any (mkS r.p) _ (sz_mkS HSZ.out.1)).mono ?_
           rintro e x1 ⟨⟨b1,rfl,hb1⟩,hw1⟩
           have HA1:=hide (HA0.out.trans (hw1.mono HA0.out.size))
           have HC1:=hide (HC0.out.kept (Kp.of_below (X:=fun _=>False) hw1) (fun h=>h))
           have HE1:=hide (HE0.out.kept (Kp.of_below (X:=fun _=>False) hw1) (fun h=>h))
           have e1:x1.cell? ⟨wr.heap.size,1,none⟩=some (.string (mkS r.v)):=HE1.out.cell 1 rfl
           have HQ1:=hide hb1
           clear hb1 hw1
           cases b1 with
           | false =>
             go_wp2_with fail
             go_ret
             exact HS.out false (fun h=>by cases h) _ HA1.out
           | true =>
             have HQ1t:=hide (HQ1.out rfl)
             go_wp2_with fail
             go_fit (versionOk_any (mkS r.v) _ (sz_mkS HSZ.out.2))
             rintro e x2 ⟨⟨b2,rfl,hb2⟩,hw2⟩
             have HA2:=hide (HA1.out.trans (hw2.mono HA1.out.size))
             have HC2:=hide (HC1.out.kept (Kp.of_below (X:=fun _=>False) hw2) (fun h=>h))
             have HE2:=hide (HE1.out.kept (Kp.of_below (X:=fun _=>False) hw2) (fun h=>h))
             have HQ2:=hide hb2
             clear hb2 hw2
             cases b2 with
             | false =>
               go_wp2_with fail
               go_ret
               exact HS.out false (fun h=>by cases h) _ HA2.out
             | true =>
               have HQ2t:=hide (HQ2.out rfl)
               go_wp2_with fail
               go_roundg (c.excs.length - (j+1))
               case measure=>omega
               case rel=>exact ⟨j+1,by omega,by simp,hide ⟨HA2.out,HC2.out,HNX.out ⟨HQ1t.out,HQ2t.out⟩⟩⟩
         · obtain rfl:j=c.excs.length:=by omega
           have HB2:=hide HI.out.1
           have HK2:=hide HI.out.2.1
           have HL2:=hide (show ∀ r ∈ c.excs,PathF (mkS r.p)∧VerL r.v from by have:=HI.out.2.2;rwa [List.take_length] at this)
           have bl:=HI.out.1.size
           have g2:wr.cell? ⟨w.heap.size,5,none⟩=some (.slice a3 c.reps.length p3):=HK2.out.cell 5 rfl
           clear HI
           go_wp2_with fail
           go_loopg [92] c.reps.length (fun k vx wr=>∃ j:Nat,j+k=c.reps.length∧vx=.int .i64 (j:Int)∧Hid (Below w.heap.size w wr∧Blk wr w.heap.size 28 #[.string s1,.string s2,.string s3,.slice a1 c.reqs.length p1,.slice a2 c.excs.length p2,.slice a3 c.reps.length p3,.slice a4 c.rets.length p4,.slice a5 c.tools.length p5,.slice a6 c.igns.length p6]∧∀ r ∈ c.reps.take j,RepF r))
           case atStart=>exact ⟨0,by omega,by simp,hide ⟨HB2.out,HK2.out,by simp⟩⟩
           case round =>
             obtain ⟨j,hj,rfl,HI⟩:=hrel
             rcases Nat.lt_or_ge j c.reps.length with hlt | hge
             · have hr:c.reps[j]?=some c.reps[j]:=List.getElem?_eq_getElem hlt
               obtain ⟨b,o,rfl,hcell⟩:=HX3.out j (repV c.reps[j]) (by rw [List.getElem?_map,hr];rfl)
               have HNX:=hide (fun (h:RepF c.reps[j])=>take_next (p:=fun r=>RepF r) hlt HI.out.2.2 h)
               have hsz:=HF.out.r3.2 c.reps[j] (List.getElem_mem hlt)
               have HSZ:=hide hsz
               generalize c.reps[j]=r at hcell HNX HSZ
               clear hsz hr
               have c0:w.cell? ⟨b,o+j * 4,none⟩=some (.string (mkS r.op)):=hcell 0 _ rfl
               have c1:w.cell? ⟨b,o+j * 4+1,none⟩=some (.string (mkS r.ov)):=hcell 1 _ rfl
               have c2:w.cell? ⟨b,o+j * 4+2,none⟩=some (.string (mkS r.np)):=hcell 2 _ rfl
               have c3:w.cell? ⟨b,o+j * 4+3,none⟩=some (.string (mkS r.nv)):=hcell 3 _ rfl
               have k0:=(HI.out.1.cell (World.block_lt_of_cell? w _ c0)).trans c0
               have k1:=(HI.out.1.cell (World.block_lt_of_cell? w _ c1)).trans c1
               have k2:=(HI.out.1.cell (World.block_lt_of_cell? w _ c2)).trans c2
               have k3:=(HI.out.1.cell (World.block_lt_of_cell? w _ c3)).trans c3
               have bl:=HI.out.1.size
               have bl0:=World.block_lt_of_cell? w _ c0
               have j0:(0:Int)≤(j:Int):=by omega
               have j1:(j:Int) < (c.reps.length:Int):=by omega
               have HA0:=hide (HI.out.1.alloc bl (Obj.cells #[.string (mkS r.op),.string (mkS r.ov),.string (mkS r.np),.string (mkS r.nv)] 50))
               have HC0:=hide (HI.out.2.1.alloc (Obj.cells #[.string (mkS r.op),.string (mkS r.ov),.string (mkS r.np),.string (mkS r.nv)] 50))
               have HE0:=hide (Blk.new wr 50 #[.string (mkS r.op),.string (mkS r.ov),.string (mkS r.np),.string (mkS r.nv)])
               clear hcell c0 c1 c2 c3
               go_wp2_with fail
               generalize wr.alloc (Obj.cells #[.string (mkS r.op),.string (mkS r.ov),.string (mkS r.np),.string (mkS r.nv)] 50)=W0 at HA0 HC0 HE0 ⊢
               go_fit (replaceOk_any r _ HSZ.out)
               rintro e x1 ⟨⟨b1,rfl,hb1⟩,hw1⟩
               have HA1:=hide (HA0.out.trans (hw1.mono HA0.out.size))
               have HC1:=hide (HC0.out.kept (Kp.of_below (X:=fun _=>False) hw1) (fun h=>h))
               have HQ1:=hide hb1
               clear hb1 hw1
               cases b1 with
               | false =>
                 go_wp2_with fail
                 go_ret
                 exact HS.out false (fun h=>by cases h) _ HA1.out
               | true =>
                 have HQ1t:=hide (HQ1.out rfl)
                 go_wp2_with fail
                 go_roundg (c.reps.length - (j+1))
                 case measure=>omega
                 case rel=>exact ⟨j+1,by omega,by simp,hide ⟨HA1.out,HC1.out,HNX.out HQ1t.out⟩⟩
             · obtain rfl:j=c.reps.length:=by omega
               have HB3:=hide HI.out.1
               have HK3:=hide HI.out.2.1
               have HL3:=hide (show ∀ r ∈ c.reps,RepF r from by have:=HI.out.2.2;rwa [List.take_length] at this)
               have bl:=HI.out.1.size
               have g3:wr.cell? ⟨w.heap.size,6,none⟩=some (.slice a4 c.rets.length p4):=HK3.out.cell 6 rfl
               clear HI
               go_wp2_with fail
               go_loopg [103] c.rets.length (fun k vx wr=>∃ j:Nat,j+k=c.rets.length∧vx=.int .i64 (j:Int)∧Hid (Below w.heap.size w wr∧Blk wr w.heap.size 28 #[.string s1,.string s2,.string s3,.slice a1 c.reqs.length p1,.slice a2 c.excs.length p2,.slice a3 c.reps.length p3,.slice a4 c.rets.length p4,.slice a5 c.tools.length p5,.slice a6 c.igns.length p6]∧∀ r ∈ c.rets.take j,VerL r.lo∧VerL r.hi∧WhyL r.why))
               case atStart=>exact ⟨0,by omega,by simp,hide ⟨HB3.out,HK3.out,by simp⟩⟩
               case round =>
                 obtain ⟨j,hj,rfl,HI⟩:=hrel
                 rcases Nat.lt_or_ge j c.rets.length with hlt | hge
                 · have hr:c.rets[j]?=some c.rets[j]:=List.getElem?_eq_getElem hlt
                   obtain ⟨b,o,rfl,hcell⟩:=HX4.out j (retV c.rets[j]) (by rw [List.getElem?_map,hr];rfl)
                   have HNX:=hide (fun (h:VerL c.rets[j].lo∧VerL c.rets[j].hi∧WhyL c.rets[j].why)=>take_next (p:=fun r=>VerL r.lo∧VerL r.hi∧WhyL r.why) hlt HI.out.2.2 h)
                   have hsz:=HF.out.r4.2 c.rets[j] (List.getElem_mem hlt)
                   have HSZ:=hide hsz
                   generalize c.rets[j]=r at hcell HNX HSZ
                   clear hsz hr
                   have c0:w.cell? ⟨b,o+j * 3,none⟩=some (.string (mkS r.lo)):=hcell 0 _ rfl
                   have c1:w.cell? ⟨b,o+j * 3+1,none⟩=some (.string (mkS r.hi)):=hcell 1 _ rfl
                   have c2:w.cell? ⟨b,o+j * 3+2,none⟩=some (.string (mkS r.why)):=hcell 2 _ rfl
                   have k0:=(HI.out.1.cell (World.block_lt_of_cell? w _ c0)).trans c0
                   have k1:=(HI.out.1.cell (World.block_lt_of_cell? w _ c1)).trans c1
                   have k2:=(HI.out.1.cell (World.block_lt_of_cell? w _ c2)).trans c2
                   have bl:=HI.out.1.size
                   have bl0:=World.block_lt_of_cell? w _ c0
                   have j0:(0:Int)≤(j:Int):=by omega
                   have j1:(j:Int) < (c.rets.length:Int):=by omega
                   have HA0:=hide (HI.out.1.alloc bl (Obj.cells #[.string (mkS r.lo),.string (mkS r.hi),.string (mkS r.why)] 53))
                   have HC0:=hide (HI.out.2.1.alloc (Obj.cells #[.string (mkS r.lo),.string (mkS r.hi),.string (mkS r.why)] 53))
                   have HE0:=hide (Blk.new wr 53 #[.string (mkS r.lo),.string (mkS r.hi),.string (mkS r.why)])
                   clear hcell c0 c1 c2
                   go_wp2_with fail
                   generalize wr.alloc (Obj.cells #[.string (mkS r.lo),.string (mkS r.hi),.string (mkS r.why)] 53)=W0 at HA0 HC0 HE0 ⊢
                   go_fit (versionOk_any (mkS r.lo) _ (sz_mkS HSZ.out.1))
                   rintro e x1 ⟨⟨b1,rfl,hb1⟩,hw1⟩
                   have HA1:=hide (HA0.out.trans (hw1.mono HA0.out.size))
                   have HC1:=hide (HC0.out.kept (Kp.of_below (X:=fun _=>False) hw1) (fun h=>h))
                   have HE1:=hide (HE0.out.kept (Kp.of_below (X:=fun _=>False) hw1) (fun h=>h))
                   have e1:x1.cell? ⟨wr.heap.size,1,none⟩=some (.string (mkS r.hi)):=HE1.out.cell 1 rfl
                   have HQ1:=hide hb1
                   clear hb1 hw1
                   cases b1 with
                   | false =>
                     go_wp2_with fail
                     go_ret
                     exact HS.out false (fun h=>by cases h) _ HA1.out
                   | true =>
                     have HQ1t:=hide (HQ1.out rfl)
                     go_wp2_with fail
                     go_fit (versionOk_any (mkS r.hi) _ (sz_mkS HSZ.out.2.1))
                     rintro e x2 ⟨⟨b2,rfl,hb2⟩,hw2⟩
                     have HA2:=hide (HA1.out.trans (hw2.mono HA1.out.size))
                     have HC2:=hide (HC1.out.kept (Kp.of_below (X:=fun _=>False) hw2) (fun h=>h))
                     have HE2:=hide (HE1.out.kept (Kp.of_below (X:=fun _=>False) hw2) (fun h=>h))
                     have e2:x2.cell? ⟨wr.heap.size,2,none⟩=some (.string (mkS r.why)):=HE2.out.cell 2 rfl
                     have HQ2:=hide hb2
                     clear hb2 hw2
                     cases b2 with
                     | false =>
                       go_wp2_with fail
                       go_ret
                       exact HS.out false (fun h=>by cases h) _ HA2.out
                     | true =>
                       have HQ2t:=hide (HQ2.out rfl)
                       go_wp2_with fail
                       go_fit (whyOk_any (mkS r.why) _ (sz_mkS HSZ.out.2.2))
                       rintro e x3 ⟨⟨b3,rfl,hb3⟩,hw3⟩
                       have HA3:=hide (HA2.out.trans (hw3.mono HA2.out.size))
                       have HC3:=hide (HC2.out.kept (Kp.of_below (X:=fun _=>False) hw3) (fun h=>h))
                       have HE3:=hide (HE2.out.kept (Kp.of_below (X:=fun _=>False) hw3) (fun h=>h))
                       have HQ3:=hide hb3
                       clear hb3 hw3
                       cases b3 with
                       | false =>
                         go_wp2_with fail
                         go_ret
                         exact HS.out false (fun h=>by cases h) _ HA3.out
                       | true =>
                         have HQ3t:=hide (HQ3.out rfl)
                         go_wp2_with fail
                         go_roundg (c.rets.length - (j+1))
                         case measure=>omega
                         case rel=>exact ⟨j+1,by omega,by simp,hide ⟨HA3.out,HC3.out,HNX.out ⟨HQ1t.out,HQ2t.out,HQ3t.out⟩⟩⟩
                 · obtain rfl:j=c.rets.length:=by omega
                   have HB4:=hide HI.out.1
                   have HK4:=hide HI.out.2.1
                   have HL4:=hide (show ∀ r ∈ c.rets,VerL r.lo∧VerL r.hi∧WhyL r.why from by have:=HI.out.2.2;rwa [List.take_length] at this)
                   have bl:=HI.out.1.size
                   have g4:wr.cell? ⟨w.heap.size,7,none⟩=some (.slice a5 c.tools.length p5):=HK4.out.cell 7 rfl
                   have g5:wr.cell? ⟨w.heap.size,8,none⟩=some (.slice a6 c.igns.length p6):=HK4.out.cell 8 rfl
                   have HB5:=hide (HB4.out.alloc bl (Obj.cells #[.slice a5 c.tools.length p5,.slice a6 c.igns.length p6] 26))
                   have HK5:=hide (HK4.out.alloc (Obj.cells #[.slice a5 c.tools.length p5,.slice a6 c.igns.length p6] 26))
                   have HE5:=hide (Blk.new wr 26 #[.slice a5 c.tools.length p5,.slice a6 c.igns.length p6])
                   clear HI
                   go_wp2_with fail
                   generalize wr.alloc (Obj.cells #[.slice a5 c.tools.length p5,.slice a6 c.igns.length p6] 26)=W5 at HB5 HK5 HE5 ⊢
                   obtain ⟨B,hB⟩:∃ B,B=wr.heap.size:=⟨_,rfl⟩
                   rw [← hB] at HE5 ⊢
                   have hbB:w.heap.size≤B:=by omega
                   clear hB bl g4 g5
                   go_loopg [130] 2 (fun k vx wr=>∃ j:Nat,j+k=2∧vx=.int .i64 (j:Int)∧Hid (Below w.heap.size w wr∧Blk wr w.heap.size 28 #[.string s1,.string s2,.string s3,.slice a1 c.reqs.length p1,.slice a2 c.excs.length p2,.slice a3 c.reps.length p3,.slice a4 c.rets.length p4,.slice a5 c.tools.length p5,.slice a6 c.igns.length p6]∧Blk wr B 26 #[.slice a5 c.tools.length p5,.slice a6 c.igns.length p6]∧(1≤j→∀ p ∈ c.tools,NiceL p)∧(2≤j→∀ p ∈ c.igns,NiceL p)))
                   case atStart=>exact ⟨0,by omega,by simp,hide ⟨HB5.out,HK5.out,HE5.out,fun h=>by omega,fun h=>by omega⟩⟩
                   case round =>
                     obtain ⟨j,hj,rfl,HI⟩:=hrel
                     rcases Nat.lt_or_ge j 2 with hlt | hge
                     · obtain ⟨l,a,p,hv,hlen,hX,hZ,hN⟩:∃ (l:List (List UInt8)) (a:Option Addr) (p:Nat),wr.cell? ⟨B,j,none⟩=some (.slice a l.length p)∧l.length≤2147483647 ∧
                           Hid (∀ i x,(l.map strV)[i]?=some x→∃ b o,a=some ⟨b,o,none⟩∧∀ q y,x[q]?=some y→w.cell? ⟨b,o+i * 1+q,none⟩=some y)∧Hid (∀ x ∈ l,szOk x) ∧
                           Hid ((∀ x ∈ l,NiceL x)→(1≤j+1→∀ p ∈ c.tools,NiceL p)∧(2≤j+1→∀ p ∈ c.igns,NiceL p)):=by
                         match j,hlt with
                         | 0,_=>exact ⟨c.tools,a5,p5,HI.out.2.2.1.cell 0 rfl,q5,HX5,hide HF.out.r5.2,hide (fun h=>⟨fun _=>h,fun h=>by omega⟩)⟩
                         | 1,_=>exact ⟨c.igns,a6,p6,HI.out.2.2.1.cell 1 rfl,q6,HX6,hide HF.out.r6.2,hide (fun h=>⟨fun _=>HI.out.2.2.2.1 (by omega),fun _=>h⟩)⟩
                       have j0:(0:Int)≤(j:Int):=by omega
                       have j1:(j:Int) < 2:=by omega
                       have HI3:=hide (And.intro HI.out.1 (And.intro HI.out.2.1 HI.out.2.2.1))
                       clear HI
                       go_wp2_with fail
                       go_loopg [136] l.length (fun k vx wq=>∃ i:Nat,i+k=l.length∧vx=.int .i64 (i:Int)∧Hid (Below w.heap.size w wq∧Blk wq w.heap.size 28 #[.string s1,.string s2,.string s3,.slice a1 c.reqs.length p1,.slice a2 c.excs.length p2,.slice a3 c.reps.length p3,.slice a4 c.rets.length p4,.slice a5 c.tools.length p5,.slice a6 c.igns.length p6]∧Blk wq B 26 #[.slice a5 c.tools.length p5,.slice a6 c.igns.length p6]∧∀ x ∈ l.take i,NiceL x))
                       case atStart=>exact ⟨0,by omega,by simp,hide ⟨HI3.out.1,HI3.out.2.1,HI3.out.2.2,by simp⟩⟩
                       case round =>
                         obtain ⟨i,hi,rfl,HJ⟩:=hrel
                         rcases Nat.lt_or_ge i l.length with hil | hil
                         · have hr:l[i]?=some l[i]:=List.getElem?_eq_getElem hil
                           obtain ⟨b,o,rfl,hcell⟩:=hX.out i (strV l[i]) (by rw [List.getElem?_map,hr];rfl)
                           have HNX:=hide (fun (h:NiceL l[i])=>take_next hil HJ.out.2.2.2 h)
                           have HSZ:=hide (hZ.out l[i] (List.getElem_mem hil))
                           generalize l[i]=x at hcell HNX HSZ
                           have c0:w.cell? ⟨b,o+i,none⟩=some (.string (mkS x)):=by simpa using hcell 0 _ rfl
                           have k0:=(HJ.out.1.cell (World.block_lt_of_cell? w _ c0)).trans c0
                           have i0:(0:Int)≤(i:Int):=by omega
                           have i1:(i:Int) < (l.length:Int):=by omega
                           clear hcell c0 hr
                           go_wp2_with fail
                           refine (pathOk_any (mkS x) _ (sz_mkS HSZ.out)).mono ?_
                           rintro e x1 ⟨⟨b1,rfl,hb1⟩,hw1⟩
                           have HA1:=hide (HJ.out.1.trans (hw1.mono HJ.out.1.size))
                           have HC1:=hide (HJ.out.2.1.kept (Kp.of_below (X:=fun _=>False) hw1) (fun h=>h))
                           have HE1:=hide (HJ.out.2.2.1.kept (Kp.of_below (X:=fun _=>False) hw1) (fun h=>h))
                           have HQ1:=hide hb1
                           clear hb1 hw1
                           cases b1 with
                           | false =>
                             go_wp2_with fail
                             go_ret
                             exact HS.out false (fun h=>by cases h) _ HA1.out
                           | true =>
                             have HQ1t:=hide (HQ1.out rfl)
                             go_wp2_with fail
                             go_roundg (l.length - (i+1))
                             case measure=>omega
                             case rel=>exact ⟨i+1,by omega,by simp,hide ⟨HA1.out,HC1.out,HE1.out,HNX.out (pathF_nice HQ1t.out)⟩⟩
                         · obtain rfl:i=l.length:=by omega
                           have HM:=hide (hN.out (by have:=HJ.out.2.2.2;rwa [List.take_length] at this))
                           have HJ3:=hide (And.intro HJ.out.1 (And.intro HJ.out.2.1 HJ.out.2.2.1))
                           clear HJ
                           go_wp2_with fail
                           go_roundg (2 - (j+1))
                           case measure=>omega
                           case rel=>exact ⟨j+1,by omega,by simp,hide ⟨HJ3.out.1,HJ3.out.2.1,HJ3.out.2.2,HM.out.1,HM.out.2⟩⟩
                     · obtain rfl:j=2:=by omega
                       have HT:=hide (HI.out.2.2.2.1 (by omega))
                       have HG:=hide (HI.out.2.2.2.2 (by omega))
                       have HB6:=hide HI.out.1
                       have n3:wr.cell? ⟨w.heap.size,3,none⟩=some (.slice a1 c.reqs.length p1):=HI.out.2.1.cell 3 rfl
                       have n4:wr.cell? ⟨w.heap.size,4,none⟩=some (.slice a2 c.excs.length p2):=HI.out.2.1.cell 4 rfl
                       have n5:wr.cell? ⟨w.heap.size,5,none⟩=some (.slice a3 c.reps.length p3):=HI.out.2.1.cell 5 rfl
                       have n6:wr.cell? ⟨w.heap.size,6,none⟩=some (.slice a4 c.rets.length p4):=HI.out.2.1.cell 6 rfl
                       have n7:wr.cell? ⟨w.heap.size,7,none⟩=some (.slice a5 c.tools.length p5):=HI.out.2.1.cell 7 rfl
                       have n8:wr.cell? ⟨w.heap.size,8,none⟩=some (.slice a6 c.igns.length p6):=HI.out.2.1.cell 8 rfl
                       clear HI
                       obtain ⟨m,hmx,m1,m2,m3,m4,m5,m6⟩:=run_max6 #[3,3,3,3,3,3] 3 (c.reqs.length:Int) (c.excs.length:Int) (c.reps.length:Int) (c.rets.length:Int) (c.tools.length:Int) (c.igns.length:Int)
                       have HM:=hide (And.intro m1 (And.intro m2 (And.intro m3 (And.intro m4 (And.intro m5 m6)))))
                       clear m1 m2 m3 m4 m5 m6
                       by_cases h100:m≤100
                       · go_wp2_with fail
                         go_ret
                         obtain ⟨m1,m2,m3,m4,m5,m6⟩:=HM.out
                         exact HS.out _ (fun _=>⟨HO1.out.1,HO1.out.2.1,HO1.out.2.2,HL1.out,HL2.out,HL3.out,HL4.out,HT.out,HG.out,by omega,by omega,by omega,by omega,by omega,by omega⟩) _ HB6.out
                       · go_wp2_with fail
                         go_ret
                         exact HS.out _ (fun h=>by simp at h) _ HB6.out
end
end Go.Proofs.YtifkpibjeamfkaaGreatFmt
