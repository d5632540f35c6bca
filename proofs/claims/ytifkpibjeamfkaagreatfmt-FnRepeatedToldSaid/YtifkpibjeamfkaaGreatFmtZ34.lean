/-
  (*input).assignComments at any tree.
-/
import Derived.Test.YtifkpibjeamfkaaGreatFmtZ33
set_option linter.unusedVariables false
set_option linter.unusedSimpArgs false
set_option maxRecDepth 100000
namespace Go.Proofs.YtifkpibjeamfkaaGreatFmt
section
open Go.RowKit Go.Shelf Go.Proofs
attribute [local go_sem] Oper.semAt_some
set_option maxHeartbeats 16000000 in
theorem assign_any (N:Nat) (w:World) (B F:Nat) (nm:ByteArray) (cs:Array Value) (cv:Value) (cms:List Cmt) (ns:List Nd) (h:Ords w.heap.size w B cs nilS nilS [] []) (h16:cs[16]?=some (.pointer (some ⟨F,0,none⟩))) (h15:cs[15]?=some cv)
   (hc:CmAt N w cv cms) (hsf:∀ c ∈ cms,c.suf=true) (hcl:cms.length≤900000) (hF:FileAt N w F nm (ns.map Nd.val)) (hno:∀ nd ∈ ns,NdO N w.heap.size w nd) (hl0:0 < ns.length) (hl:ns.length+(idsOf ns).length≤4000000) (hl1:ns.length≤1000000)
   (hes:∀ e ∈ postAll ns++[.file F],ExI N ns w e∧ExB w e∧w.cell? e.slot=some nilS∧N≤e.addr.block) (hpre:∀ e ∈ preAll ns,e ∈ postAll ns) (hN:N≤w.heap.size) (hNB:N≤B) :
   Calls Tryz.prog 61 #[.pointer (some ⟨B,0,none⟩)] w fun e w'=>e=.returned (.tuple #[])∧Sq N w w'∧(∃ p q,Blk w' B 155 ((cs.setIfInBounds 18 p).setIfInBounds 19 q))∧∀ e ∈ postAll ns,∃ v ds,w'.cell? e.slot=some v∧CmB N w' v ds:=by
 obtain ⟨i0,hi0,hi1⟩:=Option.map_eq_some_iff.1 Tryz.infoCom
 simp only [Prod.mk.injEq] at hi1
 obtain ⟨z0,hz0,hz1⟩:=Option.map_eq_some_iff.1 hi1.1
 have hz2:=hi1.2.1
 have hz3:=hi1.2.2
 clear hi1
 refine (callsIn_wide (n:=6)).1 ?_
 refine callsIn_of_wp_marks Tryz.func61 rfl trivial ?_ rfl
 refine wpIn_wide.2 ?_
 simp only [Tryz.ntmps61,List.size_toArray,List.length_cons,List.length_nil,Nat.reduceAdd,Nat.reduceSub,Array.replicate_succ,Array.replicate_zero,List.push_toArray,List.append_toArray,List.nil_append,List.cons_append]
 have c16:w.cell? ⟨B,16,none⟩=some (.pointer (some ⟨F,0,none⟩)):=h.blk.cell 16 (by rw [Array.getElem?_setIfInBounds_ne (by decide),Array.getElem?_setIfInBounds_ne (by decide)];exact h16)
 have hBl:=h.lt
 have H:=hide h
 have HC:=hide hc
 have HSF:=hide hsf
 have HF:=hide hF
 have HNO:=hide hno
 have HES:=hide hes
 have HPRE:=hide hpre
 clear h hc hsf hF hno hes hpre
 go_wp2_with fail
 refine (order_tree N w B F nm cs ns H.out HF.out HNO.out (by omega)).mono ?_
 rintro e w1 ⟨rfl,pre,post,hO,hK⟩
 have e16:w1.cell? ⟨B,16,none⟩=some (.pointer (some ⟨F,0,none⟩)):=hO.blk.cell 16 (by rw [Array.getElem?_setIfInBounds_ne (by decide),Array.getElem?_setIfInBounds_ne (by decide)];exact h16)
 have e15:w1.cell? ⟨B,15,none⟩=some cv:=hO.blk.cell 15 (by rw [Array.getElem?_setIfInBounds_ne (by decide),Array.getElem?_setIfInBounds_ne (by decide)];exact h15)
 have hB1:B < w1.heap.size:=hO.blk.lt
 have hKb:Below N w w1:=⟨hK.os,hK.tape,hK.output,hK.size,fun k hk=>by
   by_cases hx:XF B w.heap.size k
   · rcases hx with hx | hx <;> omega
   · exact hK.block k (by omega) hx⟩
 have hSq1:Sq N w w1:=(Sq.refl N w).step (B:=B) hN (hK.mono (fun k e=>e)) H.out.blk hKb
 have hC1:CmAt N w1 cv cms:=hSq1.cm HC.out
 obtain ⟨ca,cc,rfl⟩:=owns_any hC1.1
 have HO:=hide hO
 have HK:=hide hK
 have HS1:=hide hSq1
 clear hO hK hSq1 c16 hKb
 go_wp2_with fail
 have kW:Below w1.heap.size w1 (w1.alloc (Obj.cells #[Value.slice none 0 0] 124)):=(Below.refl _ w1).alloc (Nat.le_refl _) _
 have hW:(w1.alloc (Obj.cells #[Value.slice none 0 0] 124)).heap.size=w1.heap.size+1:=by simp
 have bW:=Blk.new w1 124 #[Value.slice none 0 0]
 have cW:CmAt N (w1.alloc (Obj.cells #[Value.slice none 0 0] 124)) (.slice ca cms.length cc) cms:=⟨hC1.1.alloc _,hC1.2⟩
 change Code.wp _ _ _ _ (w1.alloc (Obj.cells #[Value.slice none 0 0] 124))
 generalize w1.alloc (Obj.cells #[Value.slice none 0 0] 124)=W at kW hW bW cW ⊢
 have d15:W.cell? ⟨B,15,none⟩=some (.slice ca cms.length cc):=(kW.cell (p:=⟨B,15,none⟩) hB1).trans e15
 have hNw1:N≤w1.heap.size:=Nat.le_trans hN HK.out.size
 have KW:=hide kW
 have BW:=hide bW
 have CW:=hide cW
 clear e15 e16 kW bW cW hC1
 have hNW:N≤W.heap.size:=Nat.le_trans hNw1 KW.out.size
 have hwT:w.heap.size≤w1.heap.size:=HK.out.size
 generalize hT3:w1.heap.size=T3 at hW BW hwT ⊢
 go_wp2_with fail
 go_loopg [2,30] cms.length (fun k v2 v30 wr=>v2=.slice none 0 0∧Hid (AgInv N W T3 cms k v30 wr))
 case atStart=>exact ⟨rfl,hide ⟨0,_,by omega,rfl,Ku.refl _ _ _,BW.out,CmAt.nil _ _⟩⟩
 case round =>
   obtain ⟨rfl,hrel2⟩:=hrel
   obtain ⟨j,sf,hj,rfl,hku,hbt,hcm⟩:=hrel2.out
   clear hrel2
   rcases Nat.lt_or_ge j cms.length with hlt | hge
   · have hi:(j:Int) < (cms.length:Int):=by omega
     have b0:(0:Int)≤(j:Int):=by omega
     obtain ⟨x,hx⟩:∃ c,cms[j]?=some c:=⟨_,List.getElem?_eq_getElem hlt⟩
     have hrow:CmAt N wr (.slice ca cms.length cc) cms:=CW.out.keptU hku (fun g hg e=>by
       have h2:=BW.out.out
       subst e
       exact CW.out.blockNe BW.out (by decide) hg)
     obtain ⟨m,hm⟩:∃ m,cms.length=m+1:=⟨cms.length - 1,by omega⟩
     obtain ⟨g0,c0,hg0⟩:∃ g c,(Value.slice ca cms.length cc)=.slice (some ⟨g,0,none⟩) cms.length c:=by
       have h2:=hrow.1
       rw [hm] at h2 ⊢
       exact owns_form h2
     simp only [Value.slice.injEq] at hg0
     obtain ⟨rfl,_,rfl⟩:=hg0
     obtain ⟨x0,x1,x2,x3,x4⟩:=hrow.cells rfl hx
     rw [HSF.out x (List.mem_of_getElem? hx)] at x4
     have hjl:(cms.take j).length=j:=by simp;omega
     have hcm1:=hcm.1
     rw [hjl] at hcm1
     obtain ⟨sa,sc,rfl⟩:=owns_any hcm1
     have y0:wr.cell? ⟨T3,0,none⟩=some (.slice sa j sc):=hbt.cell 0 rfl
     have yf:∀ j,wr.frozen? ⟨T3,j,none⟩=false:=fun j=>hbt.free j
     have ty:=hbt.lt
     have n1:wr.heap.size≠T3:=by omega
     have n2:T3≠wr.heap.size:=by omega
     have n3:wr.heap.size+1≠T3:=by omega
     have hm1:j+1≤maxLen:=by unfold maxLen;omega
     have hm2:(j+1) * 48≤140737488355328:=by omega
     have hwr:W.heap.size≤wr.heap.size:=hku.size
     have hm3:∀ (a b:Obj),W.heap.size≤((wr.alloc a).alloc b).heap.size:=fun a b=>by simp;omega
     have hm4:∀ (a b:Obj),((wr.alloc a).alloc b).heap.size=wr.heap.size+1+1:=fun a b=>by simp
     have hm5:∀ u ∈ [Value.int .i64 x.l,.int .i64 x.c,.int .i64 x.b,.string (mkS x.txt),.bool true],u.oneCell'=true:=by simp [Value.oneCell']
     have M:=hide (And.intro hm1 (And.intro hm2 (And.intro hm3 (And.intro hm4 hm5))))
     have HBT:=hide hbt
     have HCM:=hide hcm1
     have HCO:=hide hcm.2
     have HKU:=hide hku
     have HX:=hide hx
     clear hbt hcm hcm1 hku hrow hm hm1 hm2 hm3 hm4 hm5 hx hwr
     go_wp2_with (at_builtin;refine wpList_append_lies _ rfl _ _ _ rfl W.heap.size 194 i0 _ 5 48 Tryz.und_coms hi0 hz0 hz2 hz3 hz1 (by omega) (.slice sa j sc) j (cvals (cms.take j)) (by rfl) ((HCM.out.alloc _).alloc _) ⟨wr.heap.size+1,0,none⟩ 1 1 [.int .i64 x.l,.int .i64 x.c,.int .i64 x.b,.string (mkS x.txt),.bool true] (by rfl) (by rfl) (news_two _ _ _ _) M.out.2.2.2.2 (by omega) M.out.1 M.out.2.1 (M.out.2.2.1 _ _) (wr.heap.size+1+1) (M.out.2.2.2.1 _ _) ?_;intro gg cap w3 hown3 hgrow3 hat3 hlt3;have k3:Ku W.heap.size (fun i u=>u=194∧(Value.slice sa j sc).ownBlock=some i) wr w3:=((((Ku.refl _ _ _).alloc HKU.out.size _).alloc HKU.out.size _).trans (Ku.of_append ((HCM.out.alloc _).alloc _) hgrow3 (M.out.2.2.1 _ _) (fun _ e=>⟨rfl,e⟩)));have hb3:=HBT.out.keptU k3 (fun e=>absurd e.1 (by decide));have z0:w3.cell? ⟨T3,0,none⟩=some (.slice sa j sc):=hb3.cell 0 rfl;have zf:∀ j,w3.frozen? ⟨T3,j,none⟩=false:=fun j=>hb3.free j;have HB3:=hide hb3;have HK3:=hide k3;have HOWN3:=hide hown3;clear hown3 hgrow3 hat3 hlt3 k3 hb3)
     go_roundg (cms.length - (j+1))
     case measure=>omega
     case rel =>
       have kt:Ku N (fun i _=>i=T3) w3 (w3.setCell ⟨T3,0,none⟩ (.slice (some ⟨gg,0,none⟩) (j+1) cap)):=Ku.set_blk (Ku.refl _ _ _) (by have:=KW.out.size;omega) HB3.out rfl
       have htk:cms.take (j+1)=cms.take j++[x]:=by rw [List.take_add_one,HX.out];rfl
       have hrow3:=ownsRow_keptU HOWN3.out kt (fun g hg e=>by
         simp only [Value.ownBlock,Option.some.injEq] at hg
         subst hg
         exact owns_ne HOWN3.out HB3.out (by decide) (by simp [Value.ownBlock,e]))
       refine ⟨rfl,hide ⟨j+1,.slice (some ⟨gg,0,none⟩) (j+1) cap,by omega,by simp,(HKU.out.trans' (HK3.out.low hNW) (fun i t hi e=>?_)).trans kt,(HB3.out.set 0 _).eq (by simp),?_,?_⟩⟩
       · have:=(HCM.out.lt i e.2).1;omega
       · rw [htk]
         have hxs:x.suf=true:=HSF.out x (List.mem_of_getElem? HX.out)
         simpa [cvals,Cmt.vals,hxs,List.length_take,Nat.min_eq_left (Nat.le_of_lt hlt)] using hrow3
       · rw [htk]
         intro y hy
         rcases List.mem_append.1 hy with hy | hy
         · exact HCO.out y hy
         · obtain rfl:=List.mem_singleton.1 hy
           exact CW.out.2 _ (List.mem_of_getElem? HX.out)
   · obtain rfl:j=cms.length:=by omega
     rw [List.take_length] at hcm
     have hst:AcSt N w (postAll ns++[.file F]) (fun _=>nilS) sf cms wr:=by
       have hsq:Sq N w wr:=((HS1.out.below' KW.out (Nat.le_trans hN HK.out.size)).ku hku hku.below (fun i t e=>Or.inr (by omega)))
       refine ⟨hsq,fun e he=>(HES.out e he).2.1,fun e he=>?_,fun e he=>⟨[],CmAt.nil _ _,by simp;omega⟩,hcm.low (by have:=KW.out.size;omega),fun _ _ _ _ _=>Apart.nil _,fun _ _=>Apart.nil _⟩
       obtain ⟨_,⟨ecs,heb⟩,hslot,_⟩:=HES.out e he
       have hlt':=heb.lt
       have hb1:Blk w1 e.addr.block e.ty ecs:=heb.kept HK.out (fun y=>by
         rcases y with y | y
         · exact absurd y (heb.ne H.out.blk e.tyNe.2)
         · omega)
       have hb2:=(hb1.kept (Kp.of_below (X:=fun _=>False) KW.out) (fun h=>h)).keptU hku (fun y=>by omega)
       unfold Ex.slot at hslot ⊢
       rw [cell_heap (hb2.out.trans heb.out.symm)]
       exact hslot
     obtain ⟨W2,hW2⟩:∃ x,x=wr:=⟨_,rfl⟩
     subst hW2
     have HST:=hide hst
     have hBT:B≠T3:=by omega
     have hblk:Blk W2 B 155 ((cs.setIfInBounds 18 pre).setIfInBounds 19 post):=(HO.out.blk.kept (Kp.of_below (X:=fun _=>False) KW.out) (fun h=>h)).keptU hku hBT
     have hprer:W2.ownsRow w.heap.size 131 1 pre (fileV F :: vals (preAll ns)).length (fileV F :: vals (preAll ns)):=by
       have h1:=ownsRow_kp HO.out.rpre (Kp.of_below (X:=fun _=>False) KW.out) (fun _ _ h=>h)
       exact ownsRow_keptU h1 hku (fun g hg e=>owns_ne h1 BW.out (by decide) (by rw [hg,e]))
     have hpostr:W2.ownsRow w.heap.size 131 1 post (vals (postAll ns)++[fileV F]).length (vals (postAll ns)++[fileV F]):=by
       have h1:=ownsRow_kp HO.out.rpost (Kp.of_below (X:=fun _=>False) KW.out) (fun _ _ h=>h)
       exact ownsRow_keptU h1 hku (fun g hg e=>owns_ne h1 BW.out (by decide) (by rw [hg,e]))
     obtain ⟨np,hnp⟩:∃ n,n=(preAll ns).length:=⟨_,rfl⟩
     have hpl:=preAll_len ns
     rw [show (fileV F :: vals (preAll ns)).length=np+1 from by simp [vals,hnp]] at hprer
     rw [show (vals (postAll ns)++[fileV F]).length=np+1 from by simp [vals,hnp,hpl.2]] at hpostr
     obtain ⟨gp,cp,rfl⟩:=owns_form hprer
     obtain ⟨gq,cq,rfl⟩:=owns_form hpostr
     have hcsz:=HO.out.size
     have d16:W2.cell? ⟨B,16,none⟩=some (.pointer (some ⟨F,0,none⟩)):=hblk.cell 16 (by rw [Array.getElem?_setIfInBounds_ne (by decide),Array.getElem?_setIfInBounds_ne (by decide)];exact h16)
     have d18:W2.cell? ⟨B,18,none⟩=some (.slice (some ⟨gp,0,none⟩) (np+1) cp):=hblk.cell 18 (by simp [hcsz])
     have d19:W2.cell? ⟨B,19,none⟩=some (.slice (some ⟨gq,0,none⟩) (np+1) cq):=hblk.cell 19 (by simp [hcsz])
     have hnp2:np≤10000000:=by omega
     have hFb:∃ v,Blk W2 F 129 #[.string nm,nilS,nilS,nilS,v]:=by
       obtain ⟨v,hb,_⟩:=HF.out
       have h1:=hb.kept HK.out (fun y=>by
         rcases y with y | y
         · exact absurd y (hb.ne H.out.blk (by decide))
         · have:=hb.lt;omega)
       exact ⟨v,(h1.kept (Kp.of_below (X:=fun _=>False) KW.out) (fun h=>h)).keptU hku (fun y=>by have:=hb.lt;omega)⟩
     have HFB:=hide hFb
     clear hFb
     have HBLK:=hide hblk
     have HPR:=hide hprer
     have HPO:=hide hpostr
     have HNP:=hide hnp
     have HBT:=hide hbt
     have HKU:=hide hku
     have hwW:w.heap.size≤W2.heap.size:=hst.sq.size
     clear hst hbt hku hcm hblk hprer hpostr hpl hnp hcsz hge
     go_wp2_with fail
     go_loopg [2,50] (np+1) (fun k v2 v50 wx=>v2=.slice none 0 0∧∃ j:Nat,j+k=np+1∧v50=.int .i64 (j:Int)∧Hid (Below W2.heap.size W2 wx))
     case atStart=>exact ⟨rfl,0,by omega,rfl,hide (Below.refl _ _)⟩
     case round =>
       obtain ⟨rfl,j,hj,rfl,hB⟩:=hrel
       rcases Nat.lt_or_ge j (np+1) with hjl | hjl
       · obtain ⟨e,he⟩:∃ e,(Ex.file F :: preAll ns)[j]?=some e:=⟨_,List.getElem?_eq_getElem (by rw [List.length_cons,← HNP.out];omega)⟩
         have hel:wr.cell? ⟨gp,j,none⟩=some e.val:=by
           have hown:=ownsRow_kp HPR.out (Kp.of_below (X:=fun _=>False) hB.out) (fun _ _ h=>h)
           rw [hown.cellAt j (by omega)]
           rw [show fileV F :: vals (preAll ns)=(Ex.file F :: preAll ns).map Ex.val from rfl,List.getElem?_map,he]
           rfl
         have hem:e ∈ postAll ns++[.file F]:=by
           rcases List.mem_cons.1 (List.mem_of_getElem? he) with h | h
           · subst h;simp
           · exact List.mem_append_left _ (HPRE.out e h)
         have hex:ExI N ns wr e:=(HST.out.sq.ex (HES.out e hem).1).below hB.out
         obtain ⟨mt,mp,mf,hv,hms,hme,hmc,hmm,_⟩:=ex_meth N ns e
         rw [hv] at hel
         have hi0:(0:Int)≤(j:Int):=by omega
         have hi1:(j:Int) < (np:Int)+1:=by omega
         have HC1:=hide (hmc _ hex)
         clear hmc hex hem he hv
         go_wp2_with fail
         refine HC1.out.mono ?_
         unfold SpanP
         rintro e2 w2 ⟨⟨a1,a2,a3,b1,b2,b3,rfl⟩,hb2⟩
         have HB2:=hide hb2
         clear hb2
         unfold posV
         go_wp2_with fail
         refine (comment_any _ _).mono ?_
         rintro e3 w3 ⟨rfl,rfl⟩
         have hb3:Below W2.heap.size W2 ((w2.alloc (Obj.cells #[.int .i64 a1,.int .i64 a2,.int .i64 a3] 134)).alloc (Obj.cells #[.int .i64 b1,.int .i64 b2,.int .i64 b3] 134)):=by
           have h1:Below W2.heap.size W2 w2:=hB.out.trans (HB2.out.mono hB.out.size)
           exact ((h1.alloc h1.size _).alloc (by have:=h1.size;simp;omega) _)
         have HB3:=hide hb3
         clear hb3
         go_wp2_with fail
         refine wp_loop_rounds 1 ?_
         rw [rounds_succ]
         go_wp2_with fail
         go_quiet (fail)
         go_wp2_with fail
         go_roundg (np+1 - (j+1))
         case measure=>omega
         case rel=>exact ⟨rfl,j+1,by omega,by simp,hide ⟨HB3.out.os,HB3.out.tape,HB3.out.output,HB3.out.size,HB3.out.block⟩⟩
       · obtain rfl:j=np+1:=by omega
         clear d18 HPR
         have HBr:=hide hB.out
         clear hB
         have hBl2:B < W2.heap.size:=HBLK.out.lt
         have x16:wr.cell? ⟨B,16,none⟩=some (.pointer (some ⟨F,0,none⟩)):=(HBr.out.cell (p:=⟨B,16,none⟩) hBl2).trans d16
         have x19:wr.cell? ⟨B,19,none⟩=some (.slice (some ⟨gq,0,none⟩) (np+1) cq):=(HBr.out.cell (p:=⟨B,19,none⟩) hBl2).trans d19
         obtain ⟨fv,hfb2⟩:=HFB.out
         have hfb:=hfb2.kept (Kp.of_below (X:=fun _=>False) HBr.out) (fun h=>h)
         have x3:wr.cell? ⟨F,3,none⟩=some (.slice none 0 0):=hfb.cell 3 rfl
         have xf:∀ j,wr.frozen? ⟨F,j,none⟩=false:=fun j=>hfb.free j
         go_wp2_with fail
         have xi:wr.setCell ⟨F,3,none⟩ (.slice none 0 0)=wr:=hfb.set_id rfl
         have hFl:=hfb.lt
         go_region_held3 (fun w'=>w'.cell? ⟨B,16,none⟩=some (.pointer (some ⟨F,0,none⟩))∧w'.cell? ⟨F,3,none⟩=some (.slice none 0 0)) (go_keep) (fail)
         go_wp2_with fail
         refine (callsIn_wide.1 (back_in Fence.wide 6 trivial rfl (some ⟨gq,0,none⟩) (np+1) cq wr.drew)).mono ?_
         rintro e w3 ⟨rfl,rfl⟩
         have hz:(vals (postAll ns)++[fileV F]).length=np+1:=by have:=preAll_len ns;simp [vals,HNP.out,this.2]
         have hbx:Below W2.heap.size W2 (wr.drew.alloc (.cells #[.slice (some ⟨gq,0,none⟩) (np+1) cq] 127)):=HBr.out.drew.alloc HBr.out.size _
         have hbB:=Blk.new wr.drew 127 #[.slice (some ⟨gq,0,none⟩) (np+1) cq]
         have hbc:(wr.drew.alloc (.cells #[.slice (some ⟨gq,0,none⟩) (np+1) cq] 127)).cell? ⟨wr.drew.heap.size,0,none⟩=some (.slice (some ⟨gq,0,none⟩) (vals (postAll ns)++[fileV F]).length cq):=by rw [hz];exact hbB.cell 0 rfl
         have hbs:wr.drew.heap.size < (wr.drew.alloc (.cells #[.slice (some ⟨gq,0,none⟩) (np+1) cq] 127)).heap.size:=by simp
         have hgq:gq < W2.heap.size:=(HPO.out.lt gq rfl).2
         have hgqf:∃ gcs fz,W2.heap[gq]?=some (Obj.cells gcs 131 fz):=by
           rcases HPO.out.2 with ⟨h,_⟩ | ⟨g',cap',cur,e,_,hh,_⟩
           · cases h
           · simp only [Value.slice.injEq,Option.some.injEq,Addr.mk.injEq,and_true] at e
             obtain ⟨rfl,_⟩:=e
             exact ⟨_,_,hh⟩
         have hwW2:W2.heap.size≤wr.heap.size:=HBr.out.size
         generalize hW0:wr.drew.alloc (.cells #[.slice (some ⟨gq,0,none⟩) (np+1) cq] 127)=W0 at hbx hbc hbs hbB ⊢
         have hBsl:wr.heap.size=wr.drew.heap.size:=rfl
         generalize wr.drew.heap.size=Bs at hbc hbs hbB hBsl ⊢
         have hI0:∀ j (h:j < (vals (postAll ns)++[fileV F]).length),W0.cell? ⟨gq,j,none⟩=some (vals (postAll ns)++[fileV F])[j]:=by
           intro j hj
           have h1:=ownsRow_kp HPO.out (Kp.of_below (X:=fun _=>False) hbx) (fun _ _ h=>h)
           rw [h1.cellAt j (by rw [hz] at hj;omega)]
           exact List.getElem?_eq_getElem hj
         have hWW:W2.heap.size≤W0.heap.size:=hbx.size
         clear hW0
         have hNW2:N≤W2.heap.size:=by have:=HKU.out.size;omega
         have hst0:RdI N w W0 (postAll ns++[.file F]) T3 W0:=by
           have k:Ku N (fun _ _=>False) W2 W0:=Ku.of_below hbx hNW2
           exact ⟨_,_,_,HST.out.quiet k k.below (fun _ _ e=>e.elim) (fun _ e=>e),HBT.out.keptU k (fun e=>e),Ku.refl _ _ _⟩
         have HI0:=hide hst0
         have HGQ:Hid (∃ gcs fz,W0.heap[gq]?=some (Obj.cells gcs 131 fz)):=by
           obtain ⟨gcs,fz,h⟩:=hgqf
           exact hide ⟨gcs,fz,(hbx.block gq hgq).trans h⟩
         clear hgqf
         have HBX:=hide hbx
         have HBC:=hide hbc
         have HC0:=hide hI0
         have HBB:=hide hbB
         clear hbx hbc hI0 xi x16 x19 x3 xf hfb hst0 hbB HBr
         go_wp2_with fail
         refine (wpIn_wide (n:=6)).1 ?_
         refine wpIn_rangeFunc_ownF rfl (by omega) (gf:=134) (lb:=#[.pointer (some ⟨Bs,0,none⟩)]) rfl trivial (enters_of Tryz.func134 (by kernel_rfl) rfl)
           (backq_stops Fence.wide _ trivial rfl (by omega) Bs W0.heap.size gq cq (vals (postAll ns)++[fileV F]) (by rw [hz];omega) W0 hbs (by omega) (Nat.le_refl _) HBC.out HC0.out) Kq.trans (kqK_b hbs (by omega)) (Below.refl _ _) (fun _=>rfl)
           (fun pre V=>RdI N w W0 (postAll ns++[.file F]) T3 V) (fun _ _ _=>False) (RdI.own (by omega) (by omega)) (fun _ _ _ _ _ hs _ _=>hs) HI0.out ?a1 ?assign ?body ?done ?stop
         case assign =>
           intro l x V K hK
           simp only [backEnc]
           gi_wp2
           exact hK
         case body =>
           rintro l pre x V hI _
           obtain ⟨sv,sf,ss,hst,hb3,hku⟩:=hI
           obtain ⟨e,hee,hem⟩:∃ e,(vals (postAll ns)++[fileV F])[x.1]=Ex.val e∧e ∈ postAll ns++[.file F]:=by
             have hm:=List.getElem_mem (l:=vals (postAll ns)++[fileV F]) x.2
             rcases List.mem_append.1 hm with hm | hm
             · obtain ⟨e,he,h2⟩:=List.mem_map.1 hm
               exact ⟨e,h2.symm,List.mem_append_left _ he⟩
             · exact ⟨.file F,List.mem_singleton.1 hm,by simp⟩
           obtain ⟨mt,mp,mf,hv,hms,hme,hmc,hmm,hma⟩:=ex_meth N ns e
           have HC1:=hide (hmc _ (hst.sq.ex (HES.out e hem).1))
           obtain ⟨sa,sc,rfl⟩:=owns_any hst.sfx.1
           have y3:V.cell? ⟨T3,0,none⟩=some (.slice sa ss.length sc):=hb3.cell 0 rfl
           have yl:=hb3.lt
           have HSV:=hide hst
           have HB3:=hide hb3
           have HKV:=hide hku
           have HEM:=hide hem
           clear hst hb3 hku hem hmc
           rw [hee,hv]
           clear hee hv
           have hW0V:W0.heap.size≤V.heap.size:=HKV.out.size
           have hend:∀ V',Below V.heap.size V V'→KeepsOthers V V'∧Kq Bs gq V V'∧RdI N w W0 (postAll ns++[.file F]) T3 V':=fun V' k =>
             ⟨keepsOthers_below k,Kq.of_below (by omega) (by omega) k,RdI.below (by omega) ⟨_,_,_,HSV.out,HB3.out,HKV.out⟩ k⟩
           have HEND:=hide hend
           clear hend
           obtain ⟨eb,eo,hea⟩:∃ b o,e.addr=⟨b,o,none⟩:=by cases e <;> exact ⟨_,_,rfl⟩
           rw [hea] at hmm
           have HEA:=hide hea
           clear hea
           rcases hf:e.isFile with _ | _
           · rw [hf] at hma
             gi_wp2
             refine ⟨trivial,?_⟩
             refine (CallsIn.inRound l (callsIn_wide.2 HC1.out)).mono ?_
             unfold SpanP
             rintro e2 w2 ⟨⟨a1,a2,a3,b1,b2,b3,rfl⟩,hb2⟩
             have hbe:Below V.heap.size V ((w2.alloc (Obj.cells #[.int .i64 a1,.int .i64 a2,.int .i64 a3] 134)).alloc (Obj.cells #[.int .i64 b1,.int .i64 b2,.int .i64 b3] 134)) :=
               (hb2.alloc hb2.size _).alloc (by have:=hb2.size;simp;omega) _
             have HBE:=hide hbe
             have HB2:=hide hb2
             clear hbe hb2
             unfold posV
             rcases hab:(a1 == b1) with _ | _
             · gi_wp2
               exact HEND.out _ HBE.out
             · gi_wp2
               refine ⟨trivial,?_⟩
               refine (CallsIn.inRound l (callsIn_wide.2 (comment_any _ _))).mono ?_
               rintro e3 w3 ⟨rfl,rfl⟩
               have hL0:RdL N w W0 V (postAll ns++[.file F]) T3 Bs gq (w2.heap.size+1) b1 b2 b3 ss.length ((w2.alloc (Obj.cells #[.int .i64 a1,.int .i64 a2,.int .i64 a3] 134)).alloc (Obj.cells #[.int .i64 b1,.int .i64 b2,.int .i64 b3] 134)):=by
                 have k2:Ku N (fun _ _=>False) V ((w2.alloc (Obj.cells #[.int .i64 a1,.int .i64 a2,.int .i64 a3] 134)).alloc (Obj.cells #[.int .i64 b1,.int .i64 b2,.int .i64 b3] 134)):=Ku.of_below HBE.out (by omega)
                 have hp:=Blk.new (w2.alloc (Obj.cells #[.int .i64 a1,.int .i64 a2,.int .i64 a3] 134)) 134 #[.int .i64 b1,.int .i64 b2,.int .i64 b3]
                 rw [show (w2.alloc (Obj.cells #[.int .i64 a1,.int .i64 a2,.int .i64 a3] 134)).heap.size=w2.heap.size+1 from by simp] at hp
                 exact ⟨sv,_,ss,rfl,HSV.out.quiet k2 k2.below (fun _ _ e=>e.elim) (fun _ e=>e),HB3.out.keptU k2 (fun e=>e),HKV.out.trans (k2.mono (fun _ _ e=>e.elim)),keepsOthers_below HBE.out,Kq.of_below (by omega) (by omega) HBE.out,hp⟩
               have HL0:=hide hL0
               clear hL0
               gi_wp2
               gi_loopg [] ss.length (fun k wq=>Hid (RdL N w W0 V (postAll ns++[.file F]) T3 Bs gq (w2.heap.size+1) b1 b2 b3 k wq))
               case atStart=>exact HL0.out
               case round =>
                 have HFIN:=hide hrel.out.fin
                 obtain ⟨sv2,sf2,ss2,hk2,hs2,hbt2,hu2,ho2,hq2,hp2⟩:=hrel.out
                 clear hrel HL0 y3
                 rcases List.eq_nil_or_concat ss2 with rfl | ⟨ini,c,rfl⟩
                 · obtain ⟨sa2,sc2,rfl⟩:=owns_any hs2.sfx.1
                   have y3:wr.cell? ⟨T3,0,none⟩=some (.slice sa2 0 sc2):=hbt2.cell 0 rfl
                   clear hs2 hbt2 hu2 ho2 hq2 hp2
                   gi_wp2
                   refine quiet_round l rfl (by kernel_rfl) (by kernel_rfl) (by simp) ?_
                   repeat (gi_big_quiet_step (fail))
                   refine wpQuietIn_nil ?_
                   intro _ hw'
                   obtain ⟨nq,hw''⟩:=hw'
                   subst hw''
                   gi_wp2
                   exact HFIN.out nq
                 · rw [List.concat_eq_append] at hk2 hs2
                   obtain ⟨m,hm⟩:∃ m,ini.length=m:=⟨_,rfl⟩
                   have hr2:=hs2.sfx
                   have hr3:=hr2.1
                   rw [show (ini++[c]).length=m+1 from by simp [hm]] at hr3
                   obtain ⟨sg,sc2,rfl⟩:=owns_form hr3
                   have hms:m+1≤sc2:=by
                     rcases hr3.2 with ⟨h,_⟩ | ⟨g',cap',cur,e,_,hh,r1,_⟩
                     · cases h
                     · simp only [Value.slice.injEq,Option.some.injEq,Addr.mk.injEq,and_true] at e
                       omega
                   have hms2:m≤sc2:=by omega
                   obtain ⟨x0,x1,x2,x3,x4⟩:=hr2.cells (i:=m) (c:=c) (by simp [hm]) (by rw [← hm];simp)
                   have y3:wr.cell? ⟨T3,0,none⟩=some (.slice (some ⟨sg,0,none⟩) (m+1) sc2):=hbt2.cell 0 rfl
                   have p3:wr.cell? ⟨w2.heap.size+1,2,none⟩=some (.int .i64 b3):=hp2.cell 2 rfl
                   obtain ⟨_,_,hcl2⟩:=hs2.com e HEM.out
                   have hm9:m≤900000:=by have:=hcl2;simp [hm] at this;omega
                   have nw:IntKind.i64.wrap ((m:Int))=(m:Int):=IntWalk.i64_in _ (by omega)
                   have nb0:(0:Int)≤(m:Int):=by omega
                   have nb1:(m:Int) < (m:Int)+1:=by omega
                   have nb2:(0:Int) < (m:Int)+1:=by omega
                   have HS2:=hide hs2
                   have HB2':=hide hbt2
                   have HU2:=hide hu2
                   have HO2:=hide ho2
                   have HQ2:=hide hq2
                   have HP2:=hide hp2
                   clear hs2 hbt2 hu2 ho2 hq2 hp2 hr2 hr3 hcl2
                   rcases hcond:decide (b3≤c.b) with _ | _
                   · have hc':(b3≤c.b)=False:=by simpa using hcond
                     gi_wp2
                     refine quiet_round l rfl (by kernel_rfl) (by kernel_rfl) (by simp) ?_
                     repeat (gi_big_quiet_step (fail))
                     refine wpQuietIn_nil ?_
                     intro _ hw'
                     obtain ⟨nq,hw''⟩:=hw'
                     subst hw''
                     gi_wp2
                     exact HFIN.out nq
                   · have hc':(b3≤c.b)=True:=by simpa using hcond
                     gi_wp2
                     refine quiet_round l rfl (by kernel_rfl) (by kernel_rfl) (by simp) ?_
                     repeat (gi_big_quiet_step (fail))
                     refine wpQuietIn_nil ?_
                     intro _ hw'
                     obtain ⟨nq,hw''⟩:=hw'
                     subst hw''
                     gi_wp2
                     refine held_round (S:=fun w'=>w'.cell? ⟨T3,0,none⟩=some (.slice (some ⟨sg,0,none⟩) (m+1) sc2)∧w'.cell? ⟨sg,m * 5,none⟩=some (.int .i64 c.l)∧w'.cell? ⟨sg,m * 5+1,none⟩=some (.int .i64 c.c)∧w'.cell? ⟨sg,m * 5+2,none⟩=some (.int .i64 c.b)∧w'.cell? ⟨sg,m * 5+3,none⟩=some (.string (mkS c.txt))∧w'.cell? ⟨sg,m * 5+4,none⟩=some (.bool c.suf)) l (by kernel_rfl) (by simp) ?hL ⟨y3,x0,x1,x2,x3,x4⟩ (fun hHeld=>?_)
                     case hL=>exact fun ⟨_,_,h⟩=>h.elim
                     refine wpAnyH_take (i:=0) (oi:=_) (v:=?vq0) rfl (by kernel_rfl) (by kernel_rfl) (by kernel_rfl) (fun _ _ _ h=>h) (Or.inl ⟨by rfl,?hq0⟩) (by assumption) ?rq0
                     case hq0=>(intro w hSw;(try dsimp only at hSw);go_simp;try (with_reducible rfl))
                     try simp only [Act.put,List.setIfInBounds_toArray,List.set_cons_zero,List.set_cons_succ]
                     refine wpAnyH_take (i:=1) (oi:=_) (v:=?vq1) rfl (by kernel_rfl) (by kernel_rfl) (by kernel_rfl) (fun _ _ _ h=>h) (Or.inl ⟨by rfl,?hq1⟩) (by assumption) ?rq1
                     case hq1=>(intro w hSw;(try dsimp only at hSw);go_simp;try (with_reducible rfl))
                     try simp only [Act.put,List.setIfInBounds_toArray,List.set_cons_zero,List.set_cons_succ]
                     refine wpAnyH_take (i:=2) (oi:=_) (v:=?vq2) rfl (by kernel_rfl) (by kernel_rfl) (by kernel_rfl) (fun _ _ _ h=>h) (Or.inl ⟨by rfl,?hq2⟩) (by assumption) ?rq2
                     case hq2=>(intro w hSw;(try dsimp only at hSw);go_simp;try (with_reducible rfl))
                     try simp only [Act.put,List.setIfInBounds_toArray,List.set_cons_zero,List.set_cons_succ]
                     refine wpAnyH_take (i:=3) (oi:=_) (v:=?vq3) rfl (by kernel_rfl) (by kernel_rfl) (by kernel_rfl) (fun _ _ _ h=>h) (Or.inl ⟨by rfl,?hq3⟩) (by assumption) ?rq3
                     case hq3=>(intro w hSw;(try dsimp only at hSw);go_simp;try (with_reducible rfl))
                     try simp only [Act.put,List.setIfInBounds_toArray,List.set_cons_zero,List.set_cons_succ]
                     refine wpAnyH_take (i:=5) (oi:=_) (v:=?vq5) rfl (by kernel_rfl) (by kernel_rfl) (by kernel_rfl) (fun _ _ _ h=>h) (Or.inl ⟨by rfl,?hq5⟩) (by assumption) ?rq5
                     case hq5=>(intro w hSw;(try dsimp only at hSw);go_simp;try (with_reducible rfl))
                     try simp only [Act.put,List.setIfInBounds_toArray,List.set_cons_zero,List.set_cons_succ]
                     refine wpAnyH_take (i:=6) (oi:=_) (v:=?vq6) rfl (by kernel_rfl) (by kernel_rfl) (by kernel_rfl) (fun _ _ _ h=>h) (Or.inl ⟨by rfl,?hq6⟩) (by assumption) ?rq6
                     case hq6=>(intro w hSw;(try dsimp only at hSw);go_simp;try (with_reducible rfl))
                     try simp only [Act.put,List.setIfInBounds_toArray,List.set_cons_zero,List.set_cons_succ]
                     refine wpAnyH_take (i:=7) (oi:=_) (v:=?vq7) rfl (by kernel_rfl) (by kernel_rfl) (by kernel_rfl) (fun _ _ _ h=>h) (Or.inl ⟨by rfl,?hq7⟩) (by assumption) ?rq7
                     case hq7=>(intro w hSw;(try dsimp only at hSw);go_simp;try (with_reducible rfl))
                     try simp only [Act.put,List.setIfInBounds_toArray,List.set_cons_zero,List.set_cons_succ]
                     refine wpAnyH_take (i:=8) (oi:=_) (v:=?vq8) rfl (by kernel_rfl) (by kernel_rfl) (by kernel_rfl) (fun _ _ _ h=>h) (Or.inl ⟨by rfl,?hq8⟩) (by assumption) ?rq8
                     case hq8=>(intro w hSw;(try dsimp only at hSw);go_simp;try (with_reducible rfl))
                     try simp only [Act.put,List.setIfInBounds_toArray,List.set_cons_zero,List.set_cons_succ]
                     refine wpAnyH_take (i:=9) (oi:=_) (v:=?vq9) rfl (by kernel_rfl) (by kernel_rfl) (by kernel_rfl) (fun _ _ _ h=>h) (Or.inl ⟨by rfl,?hq9⟩) (by assumption) ?rq9
                     case hq9=>(intro w hSw;(try dsimp only at hSw);go_simp;try (with_reducible rfl))
                     try simp only [Act.put,List.setIfInBounds_toArray,List.set_cons_zero,List.set_cons_succ]
                     refine wpAnyH_take (i:=10) (oi:=_) (v:=?vq10) rfl (by kernel_rfl) (by kernel_rfl) (by kernel_rfl) (fun _ _ _ h=>h) (Or.inl ⟨by rfl,?hq10⟩) (by assumption) ?rq10
                     case hq10=>(intro w hSw;(try dsimp only at hSw);go_simp;try (with_reducible rfl))
                     try simp only [Act.put,List.setIfInBounds_toArray,List.set_cons_zero,List.set_cons_succ]
                     have ysl:wr.cell? ⟨eb,eo+1,none⟩=some (sv2 ⟨eb,eo,none⟩):=by
                       have:=HS2.out.slot e HEM.out
                       unfold Ex.slot at this
                       rw [HEA.out] at this
                       exact this
                     obtain ⟨ecs,hec,hel⟩:=HS2.out.com e HEM.out
                     rw [HEA.out] at hec
                     obtain ⟨en,hen⟩:∃ n,ecs.length=n:=⟨_,rfl⟩
                     have hec1:=hec.1
                     rw [hen] at hec1
                     obtain ⟨va,vc,hve⟩:=owns_any hec1
                     rw [hve] at ysl hec1
                     have hen2:en≤900000:=by omega
                     have hma1:en+1≤maxLen:=by unfold maxLen;omega
                     have hma2:(en+1) * 48≤140737488355328:=by omega
                     have hwr9:w.heap.size≤wr.heap.size:=HS2.out.sq.size
                     have HEC:=hide hec1
                     have HEO:=hide hec.2
                     have HVE:=hide hve
                     have HEN:=hide hen
                     have HEL:=hide hel
                     have n1:=World.new_ne wr _ y3
                     have n2:=World.new_ne wr _ x0
                     have n3:=World.new_ne wr _ ysl
                     simp only at n1 n2 n3
                     have hebl:eb < wr.heap.size:=World.block_lt_of_cell? wr _ ysl
                     have ysl2:∀ o,((wr.drewN (nq+1)).alloc o).cell? ⟨eb,eo+1,none⟩=some (.slice va en vc):=fun o=>(cell_heap (A:=wr) (Below.heap_alloc (wr.drewN (nq+1)) o eb hebl) (eo+1)).trans ysl
                     clear hec hec1 hve hen hel
                     refine wpAnyH_ready (rs:=[4,11]) (by kernel_rfl) (by simp) ?_
                     refine AllReadyH.cons (o:=_) rfl (fun K hK=>?_) (AllReadyH.cons (o:=_) rfl (fun K hK=>?_) AllReadyH.nil)
                     · skip
                       go_simp
                       refine hK.out _ _ hHeld (fun hHeld2=>?_)
                       try simp only [Act.put,List.setIfInBounds_toArray,List.set_cons_zero,List.set_cons_succ]
                       clear hK K
                       refine wpAnyH_ready (rs:=[11]) (by kernel_rfl) (by simp) ?_
                       refine AllReadyH.cons (o:=_) rfl (fun K hK=>?_) AllReadyH.nil
                       go_simp
                       refine hK.out _ _ (by (try dsimp only at hHeld ⊢);obtain ⟨q0,q1,q2,q3,q4,q5⟩:=hHeld;go_keep) (fun hHeld3=>?_)
                       try simp only [Act.put,List.setIfInBounds_toArray,List.set_cons_zero,List.set_cons_succ]
                       clear hK K
                       refine wpAnyH_ready (rs:=[12]) (by kernel_rfl) (by simp) ?_
                       refine AllReadyH.cons (o:=_) rfl (fun K hK=>?_) AllReadyH.nil
                       refine step_append_lies _ (by rfl) _ _ _ (by rfl) w.heap.size 194 i0 _ 5 48 Tryz.und_coms hi0 hz0 hz2 hz3 hz1 (by omega) (.slice va en vc) en (cvals ecs) (by rfl) (by repeat (first | exact HEC.out | apply World.ownsRow.alloc | apply World.ownsRow.drew)) ⟨wr.heap.size,0,none⟩ 1 1 [.int .i64 c.l,.int .i64 c.c,.int .i64 c.b,.string (mkS c.txt),.bool c.suf] (by rfl) (by rfl) (news_one _ _ _) (by simp [Value.oneCell']) (by omega) hma1 hma2 (by simp;omega) (wr.heap.size+1) (by simp) ?_
                       intro gg cap w5 hown3 hgrow3 hat3 hlt3
                       have k5:Ku w.heap.size (fun i u=>u=194∧(Value.slice va en vc).ownBlock=some i) wr w5:=by
                         refine ((((Ku.refl _ _ wr).drewN nq).drew).alloc hwr9 _).trans (Ku.of_append (by repeat (first | exact HEC.out | apply World.ownsRow.alloc | apply World.ownsRow.drew)) hgrow3 (by simp;omega) (fun _ e=>⟨rfl,e⟩))
                       have hko:KeepsOthers wr w5:=by
                         have h1:KeepsOthers wr (wr.drewN (nq+1)):=⟨Nat.le_refl _,fun _ _ h _=>h⟩
                         exact (h1.trans (KeepsOthers.alloc _ _)).trans (keeps_append (by repeat (first | exact HEC.out | apply World.ownsRow.alloc | apply World.ownsRow.drew)) hgrow3)
                       obtain ⟨gcs,gfz,hgqf⟩:=HGQ.out
                       have hstep:=RdL.step (H:=wr.heap.size+1) HS2.out hm HB2'.out HU2.out HO2.out HP2.out HEM.out hf (HES.out e HEM.out).2.2.2 hN hwT HKV.out HBB.out hgqf HEN.out ⟨by rw [HEN.out];exact HEC.out,HEO.out⟩ HEL.out (by rw [HEA.out];exact HVE.out) k5 hko hown3 hat3 (by omega)
                       unfold Ex.slot at hstep
                       rw [HEA.out] at hstep
                       dsimp only at hstep
                       have HSTEP:=hide hstep
                       clear hstep hko hgqf
                       have hb5:=HB2'.out.keptU k5 (fun e=>absurd e.1 (by decide))
                       have hs5:=HS2.out.sfx.keptU k5 (fun g hg e9=>by
                         have h9:=HS2.out.apart2 e HEM.out g
                         rw [HEA.out,HVE.out] at h9
                         exact h9 e9.2 hg)
                       obtain ⟨z0,z1,z2,z3,z4⟩:=hs5.cells (i:=m) (c:=c) (by simp [hm]) (by rw [← hm];simp)
                       have zt:w5.cell? ⟨T3,0,none⟩=some (.slice (some ⟨sg,0,none⟩) (m+1) sc2):=hb5.cell 0 rfl
                       have zft:w5.frozen? ⟨T3,0,none⟩=false:=hb5.free 0
                       obtain ⟨xcs,hxb⟩:=HS2.out.exb HEM.out
                       rw [HEA.out] at hxb
                       have hx5:=hxb.keptU k5 (fun e9=>e.tyNe.1 e9.1)
                       have zs:w5.cell? ⟨eb,eo+1,none⟩=some (.slice va en vc):=(cell_heap (hx5.out.trans hxb.out.symm) (eo+1)).trans ysl
                       have zfr:∀ j,w5.frozen? ⟨eb,j,none⟩=false:=fun j=>hx5.free j
                       have m1:eb≠T3:=hxb.ne HB2'.out (by cases e <;> simp [Ex.ty])
                       have m2:eb≠sg:=fun e9=>hs5.blockNe hx5 e.tyNe.1 (by simp [Value.ownBlock,e9])
                       clear hown3 hgrow3 hat3 hlt3 k5 hb5 hs5 hxb hx5
                       refine hK.out _ _ ⟨zt,z0,z1,z2,z3,z4⟩ (fun hHeld4=>?_)
                       try simp only [Act.put,List.setIfInBounds_toArray,List.set_cons_zero,List.set_cons_succ]
                       clear hK K
                       refine wpAnyH_take (i:=13) (oi:=_) (v:=?va13) rfl (by kernel_rfl) (by kernel_rfl) (by kernel_rfl) (fun _ _ _ h=>h) (Or.inl ⟨by rfl,?ha13⟩) (by assumption) ?ra13
                       case ha13=>(intro w hSw;(try dsimp only at hSw);go_simp;try (with_reducible rfl))
                       try simp only [Act.put,List.setIfInBounds_toArray,List.set_cons_zero,List.set_cons_succ]
                       refine wpAnyH_take (i:=14) (oi:=_) (v:=?va14) rfl (by kernel_rfl) (by kernel_rfl) (by kernel_rfl) (fun _ _ _ h=>h) (Or.inl ⟨by rfl,?ha14⟩) (by assumption) ?ra14
                       case ha14=>(intro w hSw;(try dsimp only at hSw);go_simp;try (with_reducible rfl))
                       try simp only [Act.put,List.setIfInBounds_toArray,List.set_cons_zero,List.set_cons_succ]
                       refine wpAnyH_ready (rs:=[15]) (by kernel_rfl) (by simp) ?_
                       refine AllReadyH.cons (o:=_) rfl (fun K hK=>?_) AllReadyH.nil
                       go_simp
                       refine hK.out _ _ (by simp [World.cell?_setCell_far,m1,m2,zt,z0,z1,z2,z3,z4]) (fun hHeld5=>?_)
                       try simp only [Act.put,List.setIfInBounds_toArray,List.set_cons_zero,List.set_cons_succ]
                       clear hK K
                       refine wpAnyH_done (by kernel_rfl) ?_ _
                       gi_wp2
                       gi_roundg m
                       case measure=>(simp at hk2;omega)
                       case rel=>exact hide HSTEP.out
                     · skip
                       go_simp
                       refine hK.out _ _ (by (try dsimp only at hHeld ⊢);obtain ⟨q0,q1,q2,q3,q4,q5⟩:=hHeld;go_keep) (fun hHeld3=>?_)
                       try simp only [Act.put,List.setIfInBounds_toArray,List.set_cons_zero,List.set_cons_succ]
                       clear hK K
                       refine wpAnyH_ready (rs:=[4]) (by kernel_rfl) (by simp) ?_
                       refine AllReadyH.cons (o:=_) rfl (fun K hK=>?_) AllReadyH.nil
                       go_simp
                       refine hK.out _ _ hHeld3 (fun hHeld2=>?_)
                       try simp only [Act.put,List.setIfInBounds_toArray,List.set_cons_zero,List.set_cons_succ]
                       clear hK K
                       refine wpAnyH_ready (rs:=[12]) (by kernel_rfl) (by simp) ?_
                       refine AllReadyH.cons (o:=_) rfl (fun K hK=>?_) AllReadyH.nil
                       refine step_append_lies _ (by rfl) _ _ _ (by rfl) w.heap.size 194 i0 _ 5 48 Tryz.und_coms hi0 hz0 hz2 hz3 hz1 (by omega) (.slice va en vc) en (cvals ecs) (by rfl) (by repeat (first | exact HEC.out | apply World.ownsRow.alloc | apply World.ownsRow.drew)) ⟨wr.heap.size,0,none⟩ 1 1 [.int .i64 c.l,.int .i64 c.c,.int .i64 c.b,.string (mkS c.txt),.bool c.suf] (by rfl) (by rfl) (news_one _ _ _) (by simp [Value.oneCell']) (by omega) hma1 hma2 (by simp;omega) (wr.heap.size+1) (by simp) ?_
                       intro gg cap w5 hown3 hgrow3 hat3 hlt3
                       have k5:Ku w.heap.size (fun i u=>u=194∧(Value.slice va en vc).ownBlock=some i) wr w5:=by
                         refine ((((Ku.refl _ _ wr).drewN nq).drew).alloc hwr9 _).trans (Ku.of_append (by repeat (first | exact HEC.out | apply World.ownsRow.alloc | apply World.ownsRow.drew)) hgrow3 (by simp;omega) (fun _ e=>⟨rfl,e⟩))
                       have hko:KeepsOthers wr w5:=by
                         have h1:KeepsOthers wr (wr.drewN (nq+1)):=⟨Nat.le_refl _,fun _ _ h _=>h⟩
                         exact (h1.trans (KeepsOthers.alloc _ _)).trans (keeps_append (by repeat (first | exact HEC.out | apply World.ownsRow.alloc | apply World.ownsRow.drew)) hgrow3)
                       obtain ⟨gcs,gfz,hgqf⟩:=HGQ.out
                       have hstep:=RdL.step (H:=wr.heap.size+1) HS2.out hm HB2'.out HU2.out HO2.out HP2.out HEM.out hf (HES.out e HEM.out).2.2.2 hN hwT HKV.out HBB.out hgqf HEN.out ⟨by rw [HEN.out];exact HEC.out,HEO.out⟩ HEL.out (by rw [HEA.out];exact HVE.out) k5 hko hown3 hat3 (by omega)
                       unfold Ex.slot at hstep
                       rw [HEA.out] at hstep
                       dsimp only at hstep
                       have HSTEP:=hide hstep
                       clear hstep hko hgqf
                       have hb5:=HB2'.out.keptU k5 (fun e=>absurd e.1 (by decide))
                       have hs5:=HS2.out.sfx.keptU k5 (fun g hg e9=>by
                         have h9:=HS2.out.apart2 e HEM.out g
                         rw [HEA.out,HVE.out] at h9
                         exact h9 e9.2 hg)
                       obtain ⟨z0,z1,z2,z3,z4⟩:=hs5.cells (i:=m) (c:=c) (by simp [hm]) (by rw [← hm];simp)
                       have zt:w5.cell? ⟨T3,0,none⟩=some (.slice (some ⟨sg,0,none⟩) (m+1) sc2):=hb5.cell 0 rfl
                       have zft:w5.frozen? ⟨T3,0,none⟩=false:=hb5.free 0
                       obtain ⟨xcs,hxb⟩:=HS2.out.exb HEM.out
                       rw [HEA.out] at hxb
                       have hx5:=hxb.keptU k5 (fun e9=>e.tyNe.1 e9.1)
                       have zs:w5.cell? ⟨eb,eo+1,none⟩=some (.slice va en vc):=(cell_heap (hx5.out.trans hxb.out.symm) (eo+1)).trans ysl
                       have zfr:∀ j,w5.frozen? ⟨eb,j,none⟩=false:=fun j=>hx5.free j
                       have m1:eb≠T3:=hxb.ne HB2'.out (by cases e <;> simp [Ex.ty])
                       have m2:eb≠sg:=fun e9=>hs5.blockNe hx5 e.tyNe.1 (by simp [Value.ownBlock,e9])
                       clear hown3 hgrow3 hat3 hlt3 k5 hb5 hs5 hxb hx5
                       refine hK.out _ _ ⟨zt,z0,z1,z2,z3,z4⟩ (fun hHeld4=>?_)
                       try simp only [Act.put,List.setIfInBounds_toArray,List.set_cons_zero,List.set_cons_succ]
                       clear hK K
                       refine wpAnyH_take (i:=13) (oi:=_) (v:=?vab13) rfl (by kernel_rfl) (by kernel_rfl) (by kernel_rfl) (fun _ _ _ h=>h) (Or.inl ⟨by rfl,?hab13⟩) (by assumption) ?rab13
                       case hab13=>(intro w hSw;(try dsimp only at hSw);go_simp;try (with_reducible rfl))
                       try simp only [Act.put,List.setIfInBounds_toArray,List.set_cons_zero,List.set_cons_succ]
                       refine wpAnyH_take (i:=14) (oi:=_) (v:=?vab14) rfl (by kernel_rfl) (by kernel_rfl) (by kernel_rfl) (fun _ _ _ h=>h) (Or.inl ⟨by rfl,?hab14⟩) (by assumption) ?rab14
                       case hab14=>(intro w hSw;(try dsimp only at hSw);go_simp;try (with_reducible rfl))
                       try simp only [Act.put,List.setIfInBounds_toArray,List.set_cons_zero,List.set_cons_succ]
                       refine wpAnyH_ready (rs:=[15]) (by kernel_rfl) (by simp) ?_
                       refine AllReadyH.cons (o:=_) rfl (fun K hK=>?_) AllReadyH.nil
                       go_simp
                       refine hK.out _ _ (by simp [World.cell?_setCell_far,m1,m2,zt,z0,z1,z2,z3,z4]) (fun hHeld5=>?_)
                       try simp only [Act.put,List.setIfInBounds_toArray,List.set_cons_zero,List.set_cons_succ]
                       clear hK K
                       refine wpAnyH_done (by kernel_rfl) ?_ _
                       gi_wp2
                       gi_roundg m
                       case measure=>(simp at hk2;omega)
                       case rel=>exact hide HSTEP.out
           · rw [hf] at hma
             gi_wp2
             refine ⟨trivial,?_⟩
             refine (CallsIn.inRound l (callsIn_wide.2 HC1.out)).mono ?_
             unfold SpanP
             rintro e2 w2 ⟨⟨a1,a2,a3,b1,b2,b3,rfl⟩,hb2⟩
             have hbe:Below V.heap.size V ((w2.alloc (Obj.cells #[.int .i64 a1,.int .i64 a2,.int .i64 a3] 134)).alloc (Obj.cells #[.int .i64 b1,.int .i64 b2,.int .i64 b3] 134)) :=
               (hb2.alloc hb2.size _).alloc (by have:=hb2.size;simp;omega) _
             have HBE:=hide hbe
             clear hbe hb2
             unfold posV
             gi_wp2
             exact HEND.out _ HBE.out
         case done =>
           intro D ys V hD _ hI hK
           obtain ⟨sv,sf,ss,hst,hbt,hku⟩:=hI
           have bB:=(HBLK.out.kept (Kp.of_below (X:=fun _=>False) HBX.out) (fun h=>h)).keptU hku (by simp [RdS])
           have y16:V.cell? ⟨B,16,none⟩=some (.pointer (some ⟨F,0,none⟩)):=bB.cell 16 (by rw [Array.getElem?_setIfInBounds_ne (by decide),Array.getElem?_setIfInBounds_ne (by decide)];exact h16)
           have hcsz:=HO.out.size
           have y19:V.cell? ⟨B,19,none⟩=some (.slice (some ⟨gq,0,none⟩) (np+1) cq):=bB.cell 19 (by simp [hcsz])
           have hown:V.ownsRow w.heap.size 131 1 (.slice (some ⟨gq,0,none⟩) (np+1) cq) (np+1) (vals (postAll ns)++[fileV F]) :=
             ownsRow_keptU (ownsRow_kp HPO.out (Kp.of_below (X:=fun _=>False) HBX.out) (fun _ _ h=>h)) hku (fun g _=>by simp [RdS])
           obtain ⟨fv,hfb2⟩:=HFB.out
           have hfb:=(hfb2.kept (Kp.of_below (X:=fun _=>False) HBX.out) (fun h=>h)).keptU hku (by simp [RdS])
           have hFN:N≤F:=(HES.out (.file F) (by simp)).2.2.2
           have HD0:=hide (show DnI N w V (postAll ns++[.file F]) sv sf ss V from ⟨hst,Ku.refl _ _ _,KeepsOthers.refl _⟩)
           have HBB2:=hide bB
           have HOWN:=hide hown
           have HFBV:=hide hfb
           have HBT2:=hide hbt
           have HKD:=hide hK
           clear hst hbt hku bB hown hfb hfb2 hK hcsz
           go_wp2_with fail
           go_loopg [170] (np+1) (fun k v170 wr=>∃ j:Nat,j+k=np+1∧v170=.int .i64 (j:Int)∧Hid (DnI N w V (postAll ns++[.file F]) sv sf ss wr))
           case atStart=>exact ⟨0,by omega,rfl,HD0.out⟩
           case round =>
             obtain ⟨j,hj,rfl,hdn⟩:=hrel
             obtain ⟨hst,hku,hko⟩:=hdn.out
             clear hdn
             rcases Nat.lt_or_ge j (np+1) with hjl | hjl
             · obtain ⟨e,he⟩:∃ e,(postAll ns++[Ex.file F])[j]?=some e:=⟨_,List.getElem?_eq_getElem (by have:=preAll_len ns;rw [List.length_append,this.2,← HNP.out];simpa using hjl)⟩
               have hem:=List.mem_of_getElem? he
               have hel:wr.cell? ⟨gq,j,none⟩=some e.val:=by
                 have h1:=ownsRow_keptU HOWN.out hku (fun g _ y=>absurd y.1 (by decide))
                 rw [h1.cellAt j (by omega)]
                 rw [show vals (postAll ns)++[fileV F]=(postAll ns++[Ex.file F]).map Ex.val from by simp [vals];rfl,List.getElem?_map,he]
                 rfl
               obtain ⟨mt,mp,mf,hv,hms,hme,hmc,hmm,hma⟩:=ex_meth N ns e
               rw [hv] at hel
               have hi0:(0:Int)≤(j:Int):=by omega
               have hi1:(j:Int) < (np:Int)+1:=by omega
               have ysl:=hst.slot e hem
               unfold Ex.slot at ysl
               obtain ⟨eb,eo,hea⟩:∃ b o,e.addr=⟨b,o,none⟩:=by cases e <;> exact ⟨_,_,rfl⟩
               rw [hea] at hmm
               obtain ⟨ecs,hec,hel2⟩:=hst.com e hem
               have hecl:ecs.length≤1000000:=by omega
               rw [hea] at ysl
               dsimp only at ysl
               obtain ⟨xcs,hxb⟩:=hst.exb hem
               rw [hea] at hxb
               have hebl:=hxb.lt
               dsimp only at hebl
               obtain ⟨svv,hsvv⟩:∃ v,v=sv ⟨eb,eo,none⟩:=⟨_,rfl⟩
               rw [← hsvv] at ysl
               rw [hea,← hsvv] at hec
               have HEC:=hide hec
               have HST2:=hide hst
               have HKU2:=hide hku
               have HKO2:=hide hko
               have HEA:=hide hea
               have HSV:=hide hsvv
               have HEM:=hide hem
               have HEL:=hide hel2
               clear hst hku hko hea hec hem he hxb hsvv hel2 hv hma hmc
               go_wp2_with fail
               refine (comment_any _ _).mono ?_
               rintro e3 w3 ⟨rfl,rfl⟩
               go_wp2_with fail
               refine (reverse_any w.heap.size _ svv ecs HEC.out hecl).mono ?_
               rintro e4 w4 ⟨rfl,hk4,hko4,ecs',hc4,hcl4⟩
               have hrev:=HST2.out.rev (x:=e) (w':=w4) (cs':=ecs') HEM.out hN (by rw [HEA.out,← HSV.out];exact hk4) (by rw [HEA.out,← HSV.out];exact hc4) (by rw [hcl4];exact HEL.out)
               have HREV:=hide (show DnI N w V (postAll ns++[.file F]) sv sf ss w4 from ⟨hrev,HKU2.out.trans' (hk4.low hN) (fun i t _ y=>⟨y.1,(HEC.out.lt i y.2).1⟩),HKO2.out.trans hko4⟩)
               clear hrev hk4 hko4 hc4
               go_wp2_with fail
               go_roundg (np+1 - (j+1))
               case measure=>omega
               case rel=>exact ⟨j+1,by omega,by simp,HREV.out |> hide⟩
             · obtain rfl:j=np+1:=by omega
               obtain ⟨hst,hku,hko⟩:=(show DnI N w V (postAll ns++[.file F]) sv sf ss wr from ⟨hst,hku,hko⟩)
               have bB:=HBB2.out.keptU hku (fun y=>absurd y.1 (by decide))
               have hfb:=HFBV.out.keptU hku (fun y=>absurd y.1 (by decide))
               have hbt:=HBT2.out.keptU hku (fun y=>absurd y.1 (by decide))
               have x16:wr.cell? ⟨B,16,none⟩=some (.pointer (some ⟨F,0,none⟩)):=bB.cell 16 (by rw [Array.getElem?_setIfInBounds_ne (by decide),Array.getElem?_setIfInBounds_ne (by decide)];exact h16)
               have x1:wr.cell? ⟨F,1,none⟩=some (.slice none 0 0):=hfb.cell 1 rfl
               have xt:wr.cell? ⟨T3,0,none⟩=some sf:=hbt.cell 0 rfl
               have xf:∀ j,wr.frozen? ⟨F,j,none⟩=false:=fun j=>hfb.free j
               have hFT:F≠T3:=hfb.ne hbt (by decide)
               have hFB2:B≠F:=bB.ne hfb (by decide)
               have hKW:=hko.same D _ HKD.out rfl
               have hDw:w.heap.size≤D:=by omega
               have hFl:=hfb.lt
               have hBl3:=bB.lt
               have hTl3:=hbt.lt
               have HST3:=hide hst
               have HFB3:=hide hfb
               have HKW:=hide hKW
               have HBLK3:=hide bB
               clear hst hku hko bB hfb hbt hKW y16 y19
               have hfin:∀ (w3:World) (u:Value),Below wr.heap.size wr w3→w3.heap[D]?=some (Obj.deferred (some []))→(Sq N w ((w3.setCell ⟨F,1,none⟩ u).putObj D (.deferred none))∧(∃ p q,Blk ((w3.setCell ⟨F,1,none⟩ u).putObj D (.deferred none)) B 155 ((cs.setIfInBounds 18 p).setIfInBounds 19 q))∧∀ e ∈ postAll ns,∃ v ds,((w3.setCell ⟨F,1,none⟩ u).putObj D (.deferred none)).cell? e.slot=some v∧CmB N ((w3.setCell ⟨F,1,none⟩ u).putObj D (.deferred none)) v ds):=by
                 intro w3 u hb hd
                 obtain ⟨g1,g2,g3⟩:=ac_fin (o':=.deferred none) HST3.out hb HFB3.out hFN hN hDw hd rfl u
                 exact ⟨g1,⟨_,_,HBLK3.out.keptU g2 (fun y=>hFB2 y.1)⟩,fun e he=>g3 e (List.mem_append_left _ he) (post_noFile ns e he)⟩
               have HFIN:=hide hfin
               clear hfin
               rcases Nat.eq_zero_or_pos ss.length with h0 | h0
               · obtain ⟨sa,sc,hsf⟩:=owns_any HST3.out.sfx.1
                 rw [h0] at hsf
                 rw [hsf] at xt
                 have yi:wr.setCell ⟨F,1,none⟩ (.slice none 0 0)=wr:=HFB3.out.set_id rfl
                 have YI:=hide (show wr.drew.setCell ⟨F,1,none⟩ (.slice none 0 0)=wr.drew from HFB3.out.drew.set_id rfl)
                 rcases sa with _ | sa
                 · go_wp2_with fail
                   go_region_held3 (fun w'=>w'.cell? ⟨B,16,none⟩=some (.pointer (some ⟨F,0,none⟩))∧w'.cell? ⟨F,1,none⟩=some (.slice none 0 0)∧w'.cell? ⟨T3,0,none⟩=some (.slice none 0 sc)) (go_keep) (fail)
                   go_wp2_with fail
                   have g9:=HFIN.out wr.drew (.slice none 0 0) (Below.refl _ _).drew HKW.out
                   rw [YI.out] at g9
                   refine ⟨by simp,.inl ⟨_,_,rfl,run_takeDeferred HKW.out,?_⟩⟩
                   exact ⟨_,results_none rfl _ _ _,rfl,g9⟩
                 · go_wp2_with fail
                   go_region_held3 (fun w'=>w'.cell? ⟨B,16,none⟩=some (.pointer (some ⟨F,0,none⟩))∧w'.cell? ⟨F,1,none⟩=some (.slice none 0 0)∧w'.cell? ⟨T3,0,none⟩=some (.slice (some sa) 0 sc)) (go_keep) (fail)
                   go_wp2_with fail
                   have g9:=HFIN.out wr.drew (.slice none 0 0) (Below.refl _ _).drew HKW.out
                   rw [YI.out] at g9
                   refine ⟨by simp,.inl ⟨_,_,rfl,run_takeDeferred HKW.out,?_⟩⟩
                   exact ⟨_,results_none rfl _ _ _,rfl,g9⟩
               · obtain ⟨n,hn⟩:∃ n,ss.length=n+1:=⟨ss.length - 1,by omega⟩
                 have hr:=HST3.out.sfx.1
                 rw [hn] at hr
                 obtain ⟨sg,sc,hsf⟩:=owns_form hr
                 rw [hsf] at xt hr
                 have hFT2:=hFT.symm
                 have hFB3:=hFB2.symm
                 have hn9:n+1≤900000:=by
                   obtain ⟨ecs,_,h⟩:=HST3.out.com (.file F) (by simp)
                   omega
                 have hm1:0+(n+1)≤maxLen:=by unfold maxLen;omega
                 have hm2:(0+(n+1)) * 48≤140737488355328:=by omega
                 have hnews:∀ j u,(cvals ss)[j]?=some u→wr.drew.cell? ((⟨sg,0,none⟩:Addr).add j)=some u:=by
                   intro j u hu
                   have hj:=(List.getElem?_eq_some_iff.1 hu).1
                   rw [cvals_len,hn] at hj
                   have h1:=hr.cellAt j hj
                   rw [hu] at h1
                   rcases Nat.eq_zero_or_pos j with rfl | hj0
                   · simpa [Addr.add] using h1
                   · have hj0:¬ j=0:=by omega
                     simpa [Addr.add,hj0] using h1
                 have hone:∀ u ∈ cvals ss,u.oneCell'=true:=by
                   intro u hu
                   obtain ⟨c,_,hc⟩:=List.mem_flatMap.1 hu
                   simp [Cmt.vals] at hc
                   rcases hc with rfl | rfl | rfl | rfl | rfl <;> rfl
                 have HM:=hide (And.intro hm1 (And.intro hm2 (And.intro hnews hone)))
                 have HN:=hide hn
                 clear hr hm1 hm2 hnews hone hn
                 go_wp2_with fail
                 change Code.wp _ (Code.region _ #[_,_,_,_,_,_,_,_,_,_,_,id _,_,_,_,_,_,_] _) _ _ _
                 go_region_held3 (fun w'=>w'.cell? ⟨B,16,none⟩=some (.pointer (some ⟨F,0,none⟩))∧w'.cell? ⟨T3,0,none⟩=some (.slice (some ⟨sg,0,none⟩) (n+1) sc)) (go_keep)
                   ((refine step_append_lies _ (by rfl) _ _ _ (by rfl) w.heap.size 194 i0 _ 5 48 Tryz.und_coms hi0 hz0 hz2 hz3 hz1 (by omega) (.slice none 0 0) 0 [] (by rfl) ⟨rfl,Or.inl ⟨rfl,rfl⟩⟩ ⟨sg,0,none⟩ (n+1) sc (cvals ss) (by rfl) (by rw [cvals_len,HN.out]) HM.out.2.2.1 HM.out.2.2.2 (by omega) HM.out.1 HM.out.2.1 (by have:=HST3.out.sq.size;exact this) (wr.heap.size) (by rfl) ?_;intro gg cap w3' hown3 hgrow3 hat3 hlt3;have hbel:Below wr.heap.size wr w3':=((Below.refl _ wr).drew).grown hgrow3 (Nat.le_refl _) (fun k e=>by cases e);have hkd:w3'.heap[D]?=some (Obj.deferred (some [])):=(hbel.block D (Array.getElem?_eq_some_iff.1 HKW.out).1).trans HKW.out;clear hown3 hgrow3 hat3 hlt3;have d16:w3'.cell? ⟨B,16,none⟩=some (.pointer (some ⟨F,0,none⟩)):=(hbel.cell (p:=⟨B,16,none⟩) hBl3).trans x16;have d1:w3'.cell? ⟨F,1,none⟩=some (.slice none 0 0):=(hbel.cell (p:=⟨F,1,none⟩) hFl).trans x1;have dt:w3'.cell? ⟨T3,0,none⟩=some (.slice (some ⟨sg,0,none⟩) (n+1) sc):=(hbel.cell (p:=⟨T3,0,none⟩) hTl3).trans xt;have df:∀ j,w3'.frozen? ⟨F,j,none⟩=false:=fun j=>(HFB3.out.kept (Kp.of_below (X:=fun _=>False) hbel) (fun h=>h)).free j;have HBEL:=hide (And.intro hbel hkd);clear hbel hkd))
                 all_goals go_wp2_with fail
                 all_goals
                   have hDF:D≠F:=by
                     rintro rfl
                     have h1:=HFB3.out.out
                     rw [HKW.out] at h1
                     cases h1
                   refine ⟨by simp,.inl ⟨_,_,rfl,run_takeDeferred ((Below.heap_setCell _ _ _ _ hDF).trans HBEL.out.2),?_⟩⟩
                   exact ⟨_,results_none rfl _ _ _,rfl,HFIN.out _ _ HBEL.out.1 HBEL.out.2⟩
         case stop =>
           rintro D c pre V _ _ h _
           exact h.elim
end
end Go.Proofs.YtifkpibjeamfkaaGreatFmt
