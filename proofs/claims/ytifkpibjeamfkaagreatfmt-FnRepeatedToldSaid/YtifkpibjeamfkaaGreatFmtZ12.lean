/-
  (*input).assignComments where there are none.
-/
import Derived.Test.YtifkpibjeamfkaaGreatFmtZ03
import Derived.Test.YtifkpibjeamfkaaGreatFmtZ09
set_option linter.unusedVariables false
set_option linter.unusedSimpArgs false
set_option maxRecDepth 100000
namespace Go.Proofs.YtifkpibjeamfkaaGreatFmt
section
open Go.RowKit Go.Shelf Go.Proofs
attribute [local go_sem] Oper.semAt_some
def ExprAt (N:Nat) (w:World) (T:List UInt8) (F:Nat) (nm:ByteArray) (Ls:List Nat):Prop :=
 FileAt N w F nm (Ls.map lineV)∧∀ L ∈ Ls,∃ t ts,LineAt N w T L t ts
theorem ExprAt.below {N:Nat} {w w':World} {T:List UInt8} {F:Nat} {nm:ByteArray} {Ls:List Nat} (h:ExprAt N w T F nm Ls) (k:Below w.heap.size w w'):ExprAt N w' T F nm Ls :=
 ⟨h.1.below k,fun L hL=>by obtain ⟨t,ts,hl⟩:=h.2 L hL;exact ⟨t,ts,hl.below k⟩⟩
theorem keepsOthers_below {W W':World} (h:Below W.heap.size W W'):KeepsOthers W W':=⟨h.size,fun k o hk _=>(h.block k (Array.getElem?_eq_some_iff.1 hk).1).trans hk⟩
@[local go_sem] theorem m_span_file (F:Nat) (w:World):Sem.run Tryz.prog (method 420 87 (.pointer (some ⟨F,0,none⟩)) "Span") w=.ok (209,.pointer (some ⟨F,0,none⟩)) w:=by kernel_rfl
@[local go_sem] theorem m_span_line (L:Nat) (w:World):Sem.run Tryz.prog (method 420 92 (.pointer (some ⟨L,0,none⟩)) "Span") w=.ok (211,.pointer (some ⟨L,0,none⟩)) w:=by kernel_rfl
@[local go_sem] theorem m_comment_line (L:Nat) (w:World):Sem.run Tryz.prog (method 420 92 (.pointer (some ⟨L,0,none⟩)) "Comment") w=.ok (96,.pointer (some ⟨L,0,none⟩)) w:=by kernel_rfl
set_option maxHeartbeats 4000000 in
theorem assign_lines (N:Nat) (w:World) (T:List UInt8) (B F:Nat) (nm:ByteArray) (cs:Array Value) (Ls:List Nat) (h:Ords w.heap.size w B cs nilS nilS [] []) (h16:cs[16]?=some (.pointer (some ⟨F,0,none⟩))) (h15:cs[15]?=some (.slice none 0 0))
   (hE:ExprAt N w T F nm Ls) (hl0:0 < Ls.length) (hl:Ls.length≤999999) :
   Calls Tryz.prog 61 #[.pointer (some ⟨B,0,none⟩)] w fun e w'=>e=.returned (.tuple #[])∧Kp (fun k=>k=B∨k=F∨w.heap.size≤k) w w'∧ExprAt N w' T F nm Ls∧∃ p q,Blk w' B 155 ((cs.setIfInBounds 18 p).setIfInBounds 19 q):=by
 refine (callsIn_wide (n:=6)).1 ?_
 refine callsIn_of_wp_marks Tryz.func61 rfl trivial ?_ rfl
 refine wpIn_wide.2 ?_
 simp only [Tryz.ntmps61,List.size_toArray,List.length_cons,List.length_nil,Nat.reduceAdd,Nat.reduceSub,Array.replicate_succ,Array.replicate_zero,List.push_toArray,List.append_toArray,List.nil_append,List.cons_append]
 have c16:w.cell? ⟨B,16,none⟩=some (.pointer (some ⟨F,0,none⟩)):=h.blk.cell 16 (by rw [Array.getElem?_setIfInBounds_ne (by decide),Array.getElem?_setIfInBounds_ne (by decide)];exact h16)
 have hBl:=h.lt
 have H:=hide h
 have HE:=hide hE
 clear h hE
 go_wp2_with fail
 refine (order_file N w B F nm cs Ls H.out HE.out.1 hl0 (by omega)).mono ?_
 rintro e w1 ⟨rfl,pre,post,hO,hK⟩
 have e16:w1.cell? ⟨B,16,none⟩=some (.pointer (some ⟨F,0,none⟩)):=hO.blk.cell 16 (by rw [Array.getElem?_setIfInBounds_ne (by decide),Array.getElem?_setIfInBounds_ne (by decide)];exact h16)
 have e15:w1.cell? ⟨B,15,none⟩=some (.slice none 0 0):=hO.blk.cell 15 (by rw [Array.getElem?_setIfInBounds_ne (by decide),Array.getElem?_setIfInBounds_ne (by decide)];exact h15)
 have e18:=hO.c18
 have e19:=hO.c19
 obtain ⟨gp,cp,rfl⟩:=owns_form hO.rpre
 obtain ⟨gq,cq,rfl⟩:∃ g cap,post=.slice (some ⟨g,0,none⟩) (Ls.length+1) cap:=by
   have:=hO.rpost
   rw [show (Ls.map lineV++[fileV F]).length=Ls.length+1 from by simp] at this
   exact owns_form this
 rw [List.length_map] at e18
 have hB1:B < w1.heap.size:=hO.blk.lt
 have hne1:w1.heap.size≠B:=by omega
 have hne2:B≠w1.heap.size:=by omega
 have hEx1:ExprAt N w1 T F nm Ls:=by
   obtain ⟨⟨v,hb,ho⟩,hls⟩:=HE.out
   have hB:=H.out.blk
   have no:∀ g e cs' fz,w.heap[g]?=some (Obj.cells cs' e fz)→e≠155→¬ XF B w.heap.size g:=by
     rintro g e cs' fz he hne (rfl | hge)
     · have h1:=hB.out
       rw [he] at h1
       injection h1 with h1
       injection h1 with _ h1
       exact hne h1
     · have:=(Array.getElem?_eq_some_iff.1 he).1
       omega
   have nor:∀ {v:Value} {e:TypeId} {n:Nat} {xs:List Value},w.ownsRow N e 1 v n xs→e≠155→∀ g,v.ownBlock=some g→¬ XF B w.heap.size g:=by
     intro v e n xs hr hne g hg
     rcases hr.2 with ⟨rfl,_⟩ | ⟨g',cap,cur,rfl,_,hh,_⟩
     · simp [Value.ownBlock] at hg
     · simp only [Value.ownBlock,Option.some.injEq] at hg
       subst hg
       exact no _ _ _ _ hh hne
   refine ⟨⟨v,hb.kept hK (no _ _ _ _ hb.out (by decide)),ownsRow_kp ho hK (nor ho (by decide))⟩,fun L hL=>?_⟩
   obtain ⟨t,ts,tv,hlb,hlo⟩:=hls L hL
   exact ⟨t,ts,tv,hlb.kept hK (no _ _ _ _ hlb.out (by decide)),ownsRow_kp hlo hK (nor hlo (by decide))⟩
 have HE1:=hide hEx1
 have HO:=hide hO
 have HK:=hide hK
 clear hEx1 hO hK c16
 go_wp2_with fail
 have g15:(w1.alloc (Obj.cells #[Value.slice none 0 0] 124)).cell? ⟨w1.heap.size,0,none⟩=some (.slice none 0 0):=by simp
 have kW:Below w1.heap.size w1 (w1.alloc (Obj.cells #[Value.slice none 0 0] 124)):=(Below.refl _ w1).alloc (Nat.le_refl _) _
 have hW:(w1.alloc (Obj.cells #[Value.slice none 0 0] 124)).heap.size=w1.heap.size+1:=by simp
 have bW:=Blk.new w1 124 #[Value.slice none 0 0]
 generalize w1.alloc (Obj.cells #[Value.slice none 0 0] 124)=W at g15 kW hW bW ⊢
 have d16:W.cell? ⟨B,16,none⟩=some (.pointer (some ⟨F,0,none⟩)):=(kW.cell (p:=⟨B,16,none⟩) hB1).trans e16
 have d18:W.cell? ⟨B,18,none⟩=some (.slice (some ⟨gp,0,none⟩) (Ls.length+1) cp):=(kW.cell (p:=⟨B,18,none⟩) hB1).trans e18
 have d19:W.cell? ⟨B,19,none⟩=some (.slice (some ⟨gq,0,none⟩) (Ls.length+1) cq):=(kW.cell (p:=⟨B,19,none⟩) hB1).trans e19
 have KW:=hide kW
 have BW:=hide bW
 have HEW:=hide (HE1.out.below kW)
 have hpre:=HO.out.rpre
 have hpost:=HO.out.rpost
 rw [show (Ls.map lineV++[fileV F]).length=Ls.length+1 from by simp] at hpost
 rw [show (fileV F :: Ls.map lineV).length=Ls.length+1 from by simp] at hpre
 have hpreW:=ownsRow_kp hpre (Kp.of_below (X:=fun _=>False) kW) (fun _ _ h=>h)
 have hpostW:=ownsRow_kp hpost (Kp.of_below (X:=fun _=>False) kW) (fun _ _ h=>h)
 have HPRE:=hide hpreW
 have HPOST:=hide hpostW
 clear e15 e16 e18 e19 kW bW hpre hpost hpreW hpostW
 refine wp_loop_rounds 1 ?_
 rw [rounds_succ]
 go_wp2_with fail
 go_loopg [2,50] (Ls.length+1) (fun k v2 v50 wr=>v2=.slice none 0 0∧∃ j:Nat,j+k=Ls.length+1∧v50=.int .i64 (j:Int)∧Hid (Below W.heap.size W wr))
 case atStart=>exact ⟨rfl,0,by omega,rfl,hide (Below.refl _ _)⟩
 case round =>
   obtain ⟨rfl,j,hj,rfl,hB⟩:=hrel
   have hBW:B < W.heap.size:=by omega
   rcases Nat.lt_or_ge j (Ls.length+1) with hjl | hjl
   · obtain ⟨x,hx,hxc⟩:∃ x,wr.cell? ⟨gp,j,none⟩=some x∧(x=.iface 87 (.pointer (some ⟨F,0,none⟩))∨∃ L ∈ Ls,x=.iface 92 (.pointer (some ⟨L,0,none⟩))):=by
       have hown:wr.ownsRow w.heap.size 131 1 (.slice (some ⟨gp,0,none⟩) (Ls.length+1) cp) (Ls.length+1) (fileV F :: Ls.map lineV):=by simpa using ownsRow_kp HPRE.out (Kp.of_below (X:=fun _=>False) hB.out) (fun _ _ h=>h)
       refine ⟨_,(hown.cellAt j (by omega)).trans (List.getElem?_eq_getElem (by simp;omega)),?_⟩
       rcases j with _ | j
       · exact Or.inl rfl
       · refine Or.inr ⟨Ls[j]'(by omega),List.getElem_mem _,?_⟩
         simp [lineV]
     have HEr:=hide (HEW.out.below hB.out)
     have hi0:(0:Int)≤(j:Int):=by omega
     have hi1:(j:Int) < (Ls.length:Int)+1:=by omega
     rcases hxc with rfl | ⟨L,hL,rfl⟩
     · go_wp2_with fail
       refine (span_file N wr T F nm Ls HEr.out.1 HEr.out.2 hl0 (by omega)).mono ?_
       rintro e w2 ⟨⟨a1,a2,a3,b1,b2,b3,rfl⟩,hb2⟩
       have HB2:=hide hb2
       clear hb2
       unfold posV
       go_wp2_with fail
       refine (comment_any _ _).mono ?_
       rintro e w3 ⟨rfl,rfl⟩
       have hb3:Below W.heap.size W ((w2.alloc (Obj.cells #[.int .i64 a1,.int .i64 a2,.int .i64 a3] 134)).alloc (Obj.cells #[.int .i64 b1,.int .i64 b2,.int .i64 b3] 134)):=by
         have h1:Below W.heap.size W w2:=hB.out.trans (HB2.out.mono hB.out.size)
         exact ((h1.alloc h1.size _).alloc (by have:=h1.size;simp;omega) _)
       have HB3:=hide hb3
       clear hb3
       go_wp2_with fail
       refine wp_loop_rounds 1 ?_
       rw [rounds_succ]
       go_wp2_with fail
       go_quiet (fail)
       go_wp2_with fail
       go_roundg (Ls.length+1 - (j+1))
       case measure=>omega
       case rel=>exact ⟨rfl,j+1,by omega,by simp,hide ⟨HB3.out.os,HB3.out.tape,HB3.out.output,HB3.out.size,HB3.out.block⟩⟩
     · obtain ⟨lt,lts,hla⟩:=HEr.out.2 L hL
       have HLA:=hide hla
       clear hla
       go_wp2_with fail
       refine (span_lineAt N wr T L lt lts HLA.out).mono ?_
       rintro e w2 ⟨⟨a1,a2,a3,b1,b2,b3,rfl⟩,hb2⟩
       have HB2:=hide hb2
       clear hb2
       unfold posV
       go_wp2_with fail
       refine (comment_any _ _).mono ?_
       rintro e w3 ⟨rfl,rfl⟩
       have hb3:Below W.heap.size W ((w2.alloc (Obj.cells #[.int .i64 a1,.int .i64 a2,.int .i64 a3] 134)).alloc (Obj.cells #[.int .i64 b1,.int .i64 b2,.int .i64 b3] 134)):=by
         have h1:Below W.heap.size W w2:=hB.out.trans (HB2.out.mono hB.out.size)
         exact ((h1.alloc h1.size _).alloc (by have:=h1.size;simp;omega) _)
       have HB3:=hide hb3
       clear hb3
       go_wp2_with fail
       refine wp_loop_rounds 1 ?_
       rw [rounds_succ]
       go_wp2_with fail
       go_quiet (fail)
       go_wp2_with fail
       go_roundg (Ls.length+1 - (j+1))
       case measure=>omega
       case rel=>exact ⟨rfl,j+1,by omega,by simp,hide ⟨HB3.out.os,HB3.out.tape,HB3.out.output,HB3.out.size,HB3.out.block⟩⟩
   · obtain rfl:j=Ls.length+1:=by omega
     clear HPRE d18
     have HBr:=hide hB.out
     clear hB
     have x16:wr.cell? ⟨B,16,none⟩=some (.pointer (some ⟨F,0,none⟩)):=(HBr.out.cell (p:=⟨B,16,none⟩) hBW).trans d16
     have x19:wr.cell? ⟨B,19,none⟩=some (.slice (some ⟨gq,0,none⟩) (Ls.length+1) cq):=(HBr.out.cell (p:=⟨B,19,none⟩) hBW).trans d19
     have xE:=HEW.out.below HBr.out
     obtain ⟨⟨v,hfb,hfo⟩,hll⟩:=xE
     have x3:wr.cell? ⟨F,3,none⟩=some (.slice none 0 0):=hfb.cell 3 rfl
     have xf:∀ j,wr.frozen? ⟨F,j,none⟩=false:=fun j=>hfb.free j
     go_wp2_with fail
     have xi:wr.setCell ⟨F,3,none⟩ (.slice none 0 0)=wr:=hfb.set_id rfl
     have hFl:=hfb.lt
     go_region_held3 (fun w'=>w'.cell? ⟨B,16,none⟩=some (.pointer (some ⟨F,0,none⟩))∧w'.cell? ⟨F,3,none⟩=some (.slice none 0 0)) (go_keep) (fail)
     go_wp2_with fail
     refine (callsIn_wide.1 (back_in Fence.wide 6 trivial rfl (some ⟨gq,0,none⟩) (Ls.length+1) cq wr.drew)).mono ?_
     rintro e w3 ⟨rfl,rfl⟩
     have hz:(Ls.map lineV++[fileV F]).length=Ls.length+1:=by simp
     have hbx:Below W.heap.size W (wr.drew.alloc (.cells #[.slice (some ⟨gq,0,none⟩) (Ls.length+1) cq] 127)):=HBr.out.drew.alloc HBr.out.size _
     have hbc:(wr.drew.alloc (.cells #[.slice (some ⟨gq,0,none⟩) (Ls.length+1) cq] 127)).cell? ⟨wr.drew.heap.size,0,none⟩=some (.slice (some ⟨gq,0,none⟩) (Ls.map lineV++[fileV F]).length cq):=by rw [hz];exact (Blk.new wr.drew _ _).cell 0 rfl
     have hbs:wr.drew.heap.size < (wr.drew.alloc (.cells #[.slice (some ⟨gq,0,none⟩) (Ls.length+1) cq] 127)).heap.size:=by simp
     have hgq:gq < W.heap.size:=(HPOST.out.lt gq rfl).2
     have hwW:W.heap.size≤wr.heap.size:=HBr.out.size
     generalize hW0:wr.drew.alloc (.cells #[.slice (some ⟨gq,0,none⟩) (Ls.length+1) cq] 127)=W0 at hbx hbc hbs ⊢
     have hI0:∀ j (h:j < (Ls.map lineV++[fileV F]).length),W0.cell? ⟨gq,j,none⟩=some (Ls.map lineV++[fileV F])[j]:=by
       intro j hj
       have h1:=ownsRow_kp HPOST.out (Kp.of_below (X:=fun _=>False) hbx) (fun _ _ h=>h)
       rw [h1.cellAt j (by rw [hz] at hj;omega)]
       exact List.getElem?_eq_getElem hj
     have hWW:W.heap.size≤W0.heap.size:=hbx.size
     clear hW0
     have HE0:=hide (HEW.out.below hbx)
     have HBX:=hide hbx
     have HBC:=hide hbc
     have HI0:=hide hI0
     have xi0:=xi
     clear hbx hbc hI0 xi x16 x19 x3 xf hfb hfo hll HBr
     go_wp2_with fail
     refine (wpIn_wide (n:=6)).1 ?_
     refine wpIn_rangeFunc_ownF rfl (by omega) (gf:=134) (lb:=#[.pointer (some ⟨wr.drew.heap.size,0,none⟩)]) rfl trivial (enters_of Tryz.func134 (by kernel_rfl) rfl)
       (back_stops Fence.wide _ trivial rfl (by omega) wr.drew.heap.size W0.heap.size gq cq (Ls.map lineV++[fileV F]) (by rw [hz];omega) W0 hbs (by omega) (Nat.le_refl _) HBC.out HI0.out) belowK_t (belowK_b (Nat.le_refl _)) (Below.refl _ _) (fun _=>rfl)
       (fun pre V=>Below W0.heap.size W0 V) (fun _ _ _=>False) (ownFrom_below (Nat.le_refl _) (Nat.le_refl _)) (fun _ _ _ _ _ hs _ _=>hs) (Below.refl _ _) ?a1 ?assign ?body ?done ?stop
     case assign =>
       intro l x V K hK
       simp only [backEnc]
       gi_wp2
       exact hK
     case body =>
       rintro l pre x V hB _
       have hxc:(Ls.map lineV++[fileV F])[x.1]=.iface 87 (.pointer (some ⟨F,0,none⟩))∨∃ L ∈ Ls,(Ls.map lineV++[fileV F])[x.1]=.iface 92 (.pointer (some ⟨L,0,none⟩)):=by
         have hm:=List.getElem_mem (l:=Ls.map lineV++[fileV F]) x.2
         rcases List.mem_append.1 hm with hm | hm
         · obtain ⟨L,hL,e⟩:=List.mem_map.1 hm
           exact Or.inr ⟨L,hL,e.symm⟩
         · exact Or.inl (List.mem_singleton.1 hm)
       have hg3:V.cell? ⟨w1.heap.size,0,none⟩=some (.slice none 0 0):=by
         have h1:W0.cell? ⟨w1.heap.size,0,none⟩=some (.slice none 0 0):=(HBX.out.cell (p:=⟨w1.heap.size,0,none⟩) (show w1.heap.size < W.heap.size by omega)).trans g15
         exact (hB.cell (p:=⟨w1.heap.size,0,none⟩) (show w1.heap.size < W0.heap.size by omega)).trans h1
       have HEV:=hide (HE0.out.below hB)
       have HBV:=hide hB
       clear hB
       rcases hxc with hx | ⟨L,hL,hx⟩
       · rw [hx]
         gi_wp2_with (refine ⟨trivial,?_⟩;gi_at_call 209;refine (CallsIn.inRound l (callsIn_wide.2 (span_file N V T F nm Ls HEV.out.1 HEV.out.2 hl0 (by omega)))).mono ?_;rintro e w2 ⟨⟨a1,a2,a3,b1,b2,b3,rfl⟩,hb2⟩;have HB2:=hide hb2;clear hb2;unfold posV)
         have h1:Below W0.heap.size V ((w2.alloc (Obj.cells #[.int .i64 a1,.int .i64 a2,.int .i64 a3] 134)).alloc (Obj.cells #[.int .i64 b1,.int .i64 b2,.int .i64 b3] 134)):=by
           have hv:W0.heap.size≤V.heap.size:=HBV.out.size
           have h2:=HB2.out.mono hv
           exact (h2.alloc (Nat.le_trans hv h2.size) _).alloc (by have:=h2.size;simp;omega) _
         refine ⟨?_,h1,HBV.out.trans h1⟩
         exact KeepsOthers.trans (KeepsOthers.trans (keepsOthers_below HB2.out) (KeepsOthers.alloc _ _)) (KeepsOthers.alloc _ _)
       · rw [hx]
         obtain ⟨lt,lts,hla⟩:=HEV.out.2 L hL
         have HLA:=hide hla
         clear hla
         gi_wp2_with (refine ⟨trivial,?_⟩;gi_at_call 211;refine (CallsIn.inRound l (callsIn_wide.2 (span_lineAt N V T L lt lts HLA.out))).mono ?_;rintro e w2 ⟨⟨a1,a2,a3,b1,b2,b3,rfl⟩,hb2⟩;have h3:w2.cell? ⟨w1.heap.size,0,none⟩=some (.slice none 0 0):=(hb2.cell (p:=⟨w1.heap.size,0,none⟩) (show w1.heap.size < V.heap.size by have:=HBV.out.size;omega)).trans hg3;have n2:w1.heap.size < w2.heap.size:=Nat.lt_of_lt_of_le (show w1.heap.size < V.heap.size by have:=HBV.out.size;omega) hb2.size;have HB2:=hide hb2;clear hb2;unfold posV)
         · have h1:Below W0.heap.size V ((w2.alloc (Obj.cells #[.int .i64 a1,.int .i64 a2,.int .i64 a3] 134)).alloc (Obj.cells #[.int .i64 b1,.int .i64 b2,.int .i64 b3] 134)):=by
             have hv:W0.heap.size≤V.heap.size:=HBV.out.size
             have h2:=HB2.out.mono hv
             exact (h2.alloc (Nat.le_trans hv h2.size) _).alloc (by have:=h2.size;simp;omega) _
           refine ⟨?_,h1,HBV.out.trans h1⟩
           exact KeepsOthers.trans (KeepsOthers.trans (keepsOthers_below HB2.out) (KeepsOthers.alloc _ _)) (KeepsOthers.alloc _ _)
         · refine ⟨trivial,?_⟩
           refine (CallsIn.inRound l (callsIn_wide.2 (comment_any _ _))).mono ?_
           rintro e w3 ⟨rfl,rfl⟩
           gi_wp2
           refine wpIn_loop_rounds 1 ?_
           rw [roundsIn_succ]
           gi_wp2
           refine quiet_round l rfl (by kernel_rfl) (by kernel_rfl) (by simp) ?_
           repeat (gi_big_quiet_step (fail))
           refine wpQuietIn_nil ?_
           intro _ hw'
           obtain ⟨nq,hw''⟩:=hw'
           subst hw''
           gi_wp2
           have h1:Below W0.heap.size V (((w2.alloc (Obj.cells #[.int .i64 a1,.int .i64 a2,.int .i64 a3] 134)).alloc (Obj.cells #[.int .i64 b1,.int .i64 b2,.int .i64 b3] 134)).drewN nq):=by
             have hv:W0.heap.size≤V.heap.size:=HBV.out.size
             have h2:=HB2.out.mono hv
             have h3:=(h2.alloc (Nat.le_trans hv h2.size) (Obj.cells #[.int .i64 a1,.int .i64 a2,.int .i64 a3] 134)).alloc (by have:=h2.size;simp;omega) (Obj.cells #[.int .i64 b1,.int .i64 b2,.int .i64 b3] 134)
             exact ⟨h3.os,h3.tape,h3.output,h3.size,h3.block⟩
           refine ⟨?_,h1,HBV.out.trans h1⟩
           have h4:=KeepsOthers.trans (KeepsOthers.trans (keepsOthers_below HB2.out) (KeepsOthers.alloc _ (Obj.cells #[.int .i64 a1,.int .i64 a2,.int .i64 a3] 134))) (KeepsOthers.alloc _ (Obj.cells #[.int .i64 b1,.int .i64 b2,.int .i64 b3] 134))
           exact ⟨h4.size,h4.same⟩
     case done =>
       intro D ys V hD _ hB hK
       have y19:V.cell? ⟨B,19,none⟩=some (.slice (some ⟨gq,0,none⟩) (Ls.length+1) cq):=(hB.cell (p:=⟨B,19,none⟩) (show B < W0.heap.size by omega)).trans ((HBX.out.cell (p:=⟨B,19,none⟩) hBW).trans d19)
       have y16:V.cell? ⟨B,16,none⟩=some (.pointer (some ⟨F,0,none⟩)):=(hB.cell (p:=⟨B,16,none⟩) (show B < W0.heap.size by omega)).trans ((HBX.out.cell (p:=⟨B,16,none⟩) hBW).trans d16)
       have yg:V.cell? ⟨w1.heap.size,0,none⟩=some (.slice none 0 0):=(hB.cell (p:=⟨w1.heap.size,0,none⟩) (show w1.heap.size < W0.heap.size by omega)).trans ((HBX.out.cell (p:=⟨w1.heap.size,0,none⟩) (show w1.heap.size < W.heap.size by omega)).trans g15)
       have hWV:Below W.heap.size W V:=HBX.out.trans (hB.mono hWW)
       have hown:V.ownsRow w.heap.size 131 1 (.slice (some ⟨gq,0,none⟩) (Ls.length+1) cq) (Ls.length+1) (Ls.map lineV++[fileV F]):=ownsRow_kp HPOST.out (Kp.of_below (X:=fun _=>False) hWV) (fun _ _ h=>h)
       have hEV:=HEW.out.below hWV
       obtain ⟨⟨fv,hfb,hfo⟩,hll⟩:=hEV
       have y1:V.cell? ⟨F,1,none⟩=some (.slice none 0 0):=hfb.cell 1 rfl
       have y2:V.cell? ⟨F,2,none⟩=some (.slice none 0 0):=hfb.cell 2 rfl
       have yf:∀ j,V.frozen? ⟨F,j,none⟩=false:=fun j=>hfb.free j
       have yi:V.setCell ⟨F,1,none⟩ (.slice none 0 0)=V:=hfb.set_id rfl
       have hFl:=hfb.lt
       have hDV:D < V.heap.size:=(Array.getElem?_eq_some_iff.1 hK).1
       have HFIN:Hid (Kp (fun k=>k=B∨k=F∨w.heap.size≤k) w (V.drew.putObj D (.deferred none))∧ExprAt N (V.drew.putObj D (.deferred none)) T F nm Ls∧∃ p q,Blk (V.drew.putObj D (.deferred none)) B 155 ((cs.setIfInBounds 18 p).setIfInBounds 19 q)):=by
         have h1:Below W0.heap.size V (V.drew.putObj D (.deferred none)):=(Below.refl _ V).drew.trans (belowK_b (w:=W0) (Nat.le_refl _) V.drew D _ _ hD hK rfl rfl)
         have h2:Below W.heap.size W (V.drew.putObj D (.deferred none)):=hWV.trans (h1.mono hWW)
         refine hide ⟨?_,HEW.out.below h2,_,_,HO.out.blk.kept (Kp.of_below (X:=fun _=>False) (KW.out.trans (h2.mono (by omega)))) (fun h=>h)⟩
         have h3:Kp (XF B w.heap.size) w1 (V.drew.putObj D (.deferred none)):=(Kp.of_below (KW.out.trans (h2.mono (by omega))))
         exact (HK.out.trans h3).mono (fun k hk=>hk.elim Or.inl (fun h=>Or.inr (Or.inr h)))
       have HOWN:=hide hown
       have HFO:=hide hfo
       have HLL:=hide hll
       have HKD:=hide hK
       clear hB hWV hown hfo hll hfb hK
       go_wp2_with fail
       go_loopg [170] (Ls.length+1) (fun k v170 wr=>wr=V∧∃ j:Nat,j+k=Ls.length+1∧v170=.int .i64 (j:Int))
       case atStart=>exact ⟨rfl,0,by omega,rfl⟩
       case round =>
         obtain ⟨rfl,j,hj,rfl⟩:=hrel
         rcases Nat.lt_or_ge j (Ls.length+1) with hjl | hjl
         · have hi0:(0:Int)≤(j:Int):=by omega
           have hi1:(j:Int) < (Ls.length:Int)+1:=by omega
           obtain ⟨x,hx,hxc⟩:∃ x,wr.cell? ⟨gq,j,none⟩=some x∧(x=.iface 87 (.pointer (some ⟨F,0,none⟩))∨∃ L ∈ Ls,x=.iface 92 (.pointer (some ⟨L,0,none⟩))):=by
             refine ⟨_,(HOWN.out.cellAt j (by omega)).trans (List.getElem?_eq_getElem (by simp;omega)),?_⟩
             have hm:=List.getElem_mem (l:=Ls.map lineV++[fileV F]) (n:=j) (by simp;omega)
             rcases List.mem_append.1 hm with hm | hm
             · obtain ⟨L,hL,e⟩:=List.mem_map.1 hm
               exact Or.inr ⟨L,hL,e.symm⟩
             · exact Or.inl (List.mem_singleton.1 hm)
           rcases hxc with rfl | ⟨L,hL,rfl⟩
           · go_wp2_with fail
             refine (comment_any _ _).mono ?_
             rintro e w3 ⟨rfl,rfl⟩
             go_wp2_with fail
             refine (reverse_nil _).mono ?_
             rintro e w3 ⟨rfl,rfl⟩
             go_wp2_with fail
             go_roundg (Ls.length+1 - (j+1))
             case measure=>omega
             case rel=>exact ⟨rfl,j+1,by omega,by simp⟩
           · have hl1:wr.cell? ⟨L,1,none⟩=some (.slice none 0 0):=by
               obtain ⟨lt,lts,ltv,hlb,_⟩:=HLL.out L hL
               exact hlb.cell 1 rfl
             go_wp2_with fail
             refine (comment_any _ _).mono ?_
             rintro e w3 ⟨rfl,rfl⟩
             go_wp2_with fail
             refine (reverse_nil _).mono ?_
             rintro e w3 ⟨rfl,rfl⟩
             go_wp2_with fail
             go_roundg (Ls.length+1 - (j+1))
             case measure=>omega
             case rel=>exact ⟨rfl,j+1,by omega,by simp⟩
         · obtain rfl:j=Ls.length+1:=by omega
           go_wp2_with fail
           go_region_held3 (fun w'=>w'.cell? ⟨B,16,none⟩=some (.pointer (some ⟨F,0,none⟩))∧w'.cell? ⟨F,1,none⟩=some (.slice none 0 0)∧w'.cell? ⟨w1.heap.size,0,none⟩=some (.slice none 0 0)) (go_keep) (fail)
           go_wp2_with fail
           refine ⟨by simp,.inl ⟨_,_,rfl,run_takeDeferred HKD.out,?_⟩⟩
           exact ⟨_,results_none rfl _ _ _,rfl,HFIN.out.1,HFIN.out.2.1,HFIN.out.2.2⟩
     case stop =>
       rintro D c pre V _ _ h _
       exact h.elim
end
end Go.Proofs.YtifkpibjeamfkaaGreatFmt
