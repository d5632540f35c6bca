/-
  (*File).add at requirements, exclusions, tools, ignored folders.
-/
import Derived.Test.YtifkpibjeamfkaaGreatFmtZ39
set_option linter.unusedVariables false
set_option linter.unusedSimpArgs false
set_option maxRecDepth 100000
namespace Go.Proofs.YtifkpibjeamfkaaGreatFmt
section
open Go.RowKit Go.Proofs
theorem Tryz.infRequire:(Tryz.prog.info? 99).map (fun i=>(i.zero,i.size,i.bytes))=some (some (.pointer none),1,8):=by kernel_rfl
theorem Tryz.undsRequire:Tryz.prog.underlying 81=some (.slice 99):=by kernel_rfl
theorem Tryz.infExclude:(Tryz.prog.info? 102).map (fun i=>(i.zero,i.size,i.bytes))=some (some (.pointer none),1,8):=by kernel_rfl
theorem Tryz.undsExclude:Tryz.prog.underlying 82=some (.slice 102):=by kernel_rfl
theorem Tryz.infReplace:(Tryz.prog.info? 105).map (fun i=>(i.zero,i.size,i.bytes))=some (some (.pointer none),1,8):=by kernel_rfl
theorem Tryz.undsReplace:Tryz.prog.underlying 83=some (.slice 105):=by kernel_rfl
theorem Tryz.infRetract:(Tryz.prog.info? 108).map (fun i=>(i.zero,i.size,i.bytes))=some (some (.pointer none),1,8):=by kernel_rfl
theorem Tryz.undsRetract:Tryz.prog.underlying 84=some (.slice 108):=by kernel_rfl
theorem Tryz.infTool:(Tryz.prog.info? 113).map (fun i=>(i.zero,i.size,i.bytes))=some (some (.pointer none),1,8):=by kernel_rfl
theorem Tryz.undsTool:Tryz.prog.underlying 85=some (.slice 113):=by kernel_rfl
theorem Tryz.infIgnore:(Tryz.prog.info? 116).map (fun i=>(i.zero,i.size,i.bytes))=some (some (.pointer none),1,8):=by kernel_rfl
theorem Tryz.undsIgnore:Tryz.prog.underlying 86=some (.slice 116):=by kernel_rfl
set_option maxHeartbeats 8000000 in
theorem add_reqV (M N:Nat) (w:World) (f E F L:Nat) (b:Option Nat) (nm:ByteArray) (m g:Bool) (n c R:Nat) (cur:Array Value) (fa:Nat→Int) (h:AddH M N w f E F L b nm m g n c R cur fa) (o cap:Nat) (x y:ByteArray) (hx:cur[o]?=some (.string x)) (hy:cur[o+1]?=some (.string y)) (px:Plain x) (py:Plain y) (hs:SB y) :
   Calls Tryz.prog 52 #[.pointer (some ⟨f,0,none⟩),.pointer (some ⟨E,0,none⟩),.pointer (b.map fun X=>⟨X,0,none⟩),.pointer (some ⟨L,0,none⟩),.string ⟨#[114,101,113,117,105,114,101]⟩,.slice (some ⟨R,o,none⟩) 2 (cap+2),.nilFunc,.bool true] w
     (AdR M w f E F nm m g n c (ErX n)):=by
 have hmf:∀ (fn:Fn) (first cap:Array Value) (w:World),(Instr.makeFunc fn first cap).run Tryz.prog w=.ok (.func fn first cap) w:=fun _ _ _ _=>rfl
 have hI:=AI.enter (verb:=⟨#[114,101,113,117,105,114,101]⟩) (av:=.slice (some ⟨R,o,none⟩) 2 (cap+2)) h
 clear h
 go_enter Tryz.func52,Tryz.ntmps52
 go_upto_region 11 with fail
 change Code.wp _ _ _ _ (addVars w f E L ⟨#[114,101,113,117,105,114,101]⟩ (.slice (some ⟨R,o,none⟩) 2 (cap+2)) 156 (clV w.heap.size))
 generalize addVars w f E L ⟨#[114,101,113,117,105,114,101]⟩ (.slice (some ⟨R,o,none⟩) 2 (cap+2)) 156 (clV w.heap.size)=W at *
 have q0:W.cell? ⟨w.heap.size,0,none⟩=some (.pointer (some ⟨f,0,none⟩)):=hI.aw.b0.cell 0 rfl
 have q2:W.cell? ⟨w.heap.size+1+1,0,none⟩=some (.pointer (some ⟨L,0,none⟩)):=hI.aw.b2.cell 0 rfl
 have q3:W.cell? ⟨w.heap.size+1+1+1,0,none⟩=some (.string ⟨#[114,101,113,117,105,114,101]⟩):=hI.aw.b3.cell 0 rfl
 have q4:W.cell? ⟨w.heap.size+1+1+1+1,0,none⟩=some (.slice (some ⟨R,o,none⟩) 2 (cap+2)):=hI.aw.b4.cell 0 rfl
 have HC:=hide (parseString_plain R o cur x W hI.h.row hx px.chars px.first px.len px.mq hI.h.pr hI.h.bigW)
 have HV:=hide (fun w1 (h1:AI M N w w1 f E F L b nm ⟨#[114,101,113,117,105,114,101]⟩ (.slice (some ⟨R,o,none⟩) 2 (cap+2)) m g n c R cur fa)=>parseVersion_sb R (o+1) cur ⟨#[114,101,113,117,105,114,101]⟩ x y w1 h1.h.row hy py hs h1.h.pr h1.h.bigW)
 clear hx hy px py hs
 have HI:=hide hI
 clear hI
 go_wp2_with fail
 refine HC.out.mono ?_
 rintro e w1 ⟨rfl,hb1⟩
 have hI1:=HI.out.step hb1
 have p3:=hI1.aw.b3.cell 0 rfl
 have p4:=hI1.aw.b4.cell 0 rfl
 have HI1:=hide hI1
 clear hI1 hb1 HC
 go_wp2_with fail
 go_region_held3 (fun w'=>w'.cell? ⟨w.heap.size+1+1+1,0,none⟩=some (.string ⟨#[114,101,113,117,105,114,101]⟩)∧w'.cell? ⟨w.heap.size+1+1+1+1,0,none⟩=some (.slice (some ⟨R,o,none⟩) 2 (cap+2))) (go_keep)
   ((go_fit (HV.out w1.drew (HI1.out.step (Below.refl _ _).drew));rintro e w2 ⟨⟨et,ev,rfl⟩,hb2⟩;have hI2:=(HI1.out.step (Below.refl _ _).drew).step hb2;have g3:=hI2.aw.b3.cell 0 rfl;have g4:=hI2.aw.b4.cell 0 rfl;have g5:=hI2.aw.b5.cell 0 rfl;have HI2:=hide hI2;clear hb2 hI2))
 all_goals go_wp2_with fail
 all_goals go_fit (HI2.out.wrap _ _)
 all_goals (rintro e w9 ⟨rfl,hE⟩;have HE:=hide hE;clear hE)
 all_goals go_wp2_with fail
 all_goals go_returns
 all_goals exact AI.fail HI2.out ⟨rfl,HE.out⟩ (Nat.lt_succ_self n)
set_option maxHeartbeats 8000000 in
theorem add_req (M N:Nat) (w:World) (f E F L:Nat) (b:Option Nat) (nm:ByteArray) (m g:Bool) (n c R:Nat) (cur:Array Value) (fa:Nat→Int) (h:AddH M N w f E F L b nm m g n c R cur fa) (o cap k:Nat) (path:ByteArray) (v:List UInt8) (hx:cur[o]?=some (.string path)) (hy:cur[o+1]?=some (.string (mkS v))) (px:Plain path) (py:Plain (mkS v)) (hv:VerL v) (hk:path.size=k+1) (hc:97≤bt path k∧bt path k≤122) (hf:Lib.hasPrefix path.data.toList gopkg.data.toList=false) :
   Calls Tryz.prog 52 #[.pointer (some ⟨f,0,none⟩),.pointer (some ⟨E,0,none⟩),.pointer (b.map fun X=>⟨X,0,none⟩),.pointer (some ⟨L,0,none⟩),.string ⟨#[114,101,113,117,105,114,101]⟩,.slice (some ⟨R,o,none⟩) 2 (cap+2),.nilFunc,.bool true] w
     (AdR M w f E F nm m g n c (NoX)):=by
 have hmf:∀ (fn:Fn) (first cap:Array Value) (w:World),(Instr.makeFunc fn first cap).run Tryz.prog w=.ok (.func fn first cap) w:=fun _ _ _ _=>rfl
 obtain ⟨i1,hi1,hy1⟩:=Option.map_eq_some_iff.1 Tryz.infRequire
 simp only [Prod.mk.injEq] at hy1
 obtain ⟨hy0,hy1,hy2⟩:=hy1
 obtain ⟨d,hd,⟨r,hr⟩,hsp⟩:=sp_ver hv
 have h0v:0 < (mkS v).size:=by rw [mkS_len,hr];simp
 have hI:=AI.enter (verb:=⟨#[114,101,113,117,105,114,101]⟩) (av:=.slice (some ⟨R,o,none⟩) 2 (cap+2)) h
 clear h
 go_enter Tryz.func52,Tryz.ntmps52
 go_upto_region 11 with fail
 change Code.wp _ _ _ _ (addVars w f E L ⟨#[114,101,113,117,105,114,101]⟩ (.slice (some ⟨R,o,none⟩) 2 (cap+2)) 156 (clV w.heap.size))
 generalize addVars w f E L ⟨#[114,101,113,117,105,114,101]⟩ (.slice (some ⟨R,o,none⟩) 2 (cap+2)) 156 (clV w.heap.size)=W at *
 have q0:W.cell? ⟨w.heap.size,0,none⟩=some (.pointer (some ⟨f,0,none⟩)):=hI.aw.b0.cell 0 rfl
 have q2:W.cell? ⟨w.heap.size+1+1,0,none⟩=some (.pointer (some ⟨L,0,none⟩)):=hI.aw.b2.cell 0 rfl
 have q3:W.cell? ⟨w.heap.size+1+1+1,0,none⟩=some (.string ⟨#[114,101,113,117,105,114,101]⟩):=hI.aw.b3.cell 0 rfl
 have q4:W.cell? ⟨w.heap.size+1+1+1+1,0,none⟩=some (.slice (some ⟨R,o,none⟩) 2 (cap+2)):=hI.aw.b4.cell 0 rfl
 have HC:=hide (parseString_plain R o cur path W hI.h.row hx px.chars px.first px.len px.mq hI.h.pr hI.h.bigW)
 have HV:=hide (fun w1 (h1:AI M N w w1 f E F L b nm ⟨#[114,101,113,117,105,114,101]⟩ (.slice (some ⟨R,o,none⟩) 2 (cap+2)) m g n c R cur fa)=>parseVersion_sp R (o+1) cur ⟨#[114,101,113,117,105,114,101]⟩ path (mkS v) _ w1 h1.h.row hy py hsp h0v h1.h.pr h1.h.bigW)
 have HM:=hide (fun w1=>pathMajor_plain path k w1 hk (by have:=px.len;omega) hc hf)
 have HK:=hide (fun w1=>checkPathMajor_sp v w1 hv)
 clear hx hy px py hv hk hc hf hd hr hsp h0v
 have HI:=hide hI
 clear hI
 go_wp2_with fail
 refine HC.out.mono ?_
 rintro e w1 ⟨rfl,hb1⟩
 have hI1:=HI.out.step hb1
 have p3:=hI1.aw.b3.cell 0 rfl
 have p4:=hI1.aw.b4.cell 0 rfl
 have HI1:=hide hI1
 clear hI1 hb1 HC HI
 go_wp2_with fail
 go_cut [29,28] from 263 to 271 (fun x y wx=>AI M N w wx f E F L b nm ⟨#[114,101,113,117,105,114,101]⟩ (.slice (some ⟨R,o,none⟩) 2 (cap+2)) m g n c R cur fa∧x=.string (mkS v)∧y=.nilIface)
 case first =>
   go_region_held3 (fun w'=>w'.cell? ⟨w.heap.size+1+1+1,0,none⟩=some (.string ⟨#[114,101,113,117,105,114,101]⟩)∧w'.cell? ⟨w.heap.size+1+1+1+1,0,none⟩=some (.slice (some ⟨R,o,none⟩) 2 (cap+2))) (go_keep)
     ((go_fit (HV.out w1.drew (HI1.out.step (Below.refl _ _).drew));rintro e w2 ⟨rfl,hb2⟩;have hI2:=(HI1.out.step (Below.refl _ _).drew).step hb2;have g3:=hI2.aw.b3.cell 0 rfl;have g4:=hI2.aw.b4.cell 0 rfl;have HI2:=hide hI2;clear hb2 hI2))
   all_goals go_wp2_with fail
   all_goals go_meet
   all_goals exact ⟨HI2.out,rfl,rfl⟩
 case rest =>
 obtain ⟨hI3,rfl,rfl⟩:=hcut
 have HI3:=hide hI3
 clear hI3 HI1 HV p3 p4
 go_wp2_with fail
 go_fit (HM.out _)
 rintro e w4 ⟨rfl,rfl⟩
 go_wp2_with fail
 go_fit (HK.out _)
 rintro e w5 ⟨rfl,hb5⟩
 have hI5:=HI3.out.step hb5
 have p3:=hI5.aw.b3.cell 0 rfl
 have HI5:=hide hI5
 clear HI3 HK HM hb5 hI5 q0 q2 q3 q4
 go_upto_region 73 with fail
 have p0:w5.cell? ⟨w.heap.size,0,none⟩=some (.pointer (some ⟨f,0,none⟩)):=HI5.out.aw.b0.cell 0 rfl
 have p2:w5.cell? ⟨w.heap.size+1+1,0,none⟩=some (.pointer (some ⟨L,0,none⟩)):=HI5.out.aw.b2.cell 0 rfl
 obtain ⟨cs,hfb,hfc⟩:=HI5.out.h.st.fb
 obtain ⟨sv,kk,xs,hs0,hs1,hs2⟩:=hfc.rows 4 (by decide) (by decide)
 obtain ⟨sa,sc,rfl⟩:=owns_any hs1
 have p4:w5.cell? ⟨f,4,none⟩=some (.slice sa kk sc):=hfb.cell 4 hs0
 have pf:w5.frozen? ⟨f,4,none⟩=false:=hfb.free 4
 have hfl:=hfb.lt
 have hMW:=HI5.out.h.st.lM
 have hcc:=HI5.out.h.hc
 have hm1:kk+1≤maxLen:=by unfold maxLen;omega
 have hm2:(kk+1) * 8≤140737488355328:=by omega
 have nf0:w.heap.size≠f:=HI5.out.aw.b0.ne hfb (by decide)
 have nf2:w.heap.size+1+1≠f:=HI5.out.aw.b2.ne hfb (by decide)
 have nf0':=nf0.symm
 have nf2':=nf2.symm
 have nfW:f≠w5.heap.size:=by omega
 have HFB:=hide hfb
 have HS0:=hide hs0
 have HRW:=hide (show w5.ownsRow M 99 1 (.slice sa kk sc) kk xs from hs1)
 have HB2:=hide HI5.out.aw.b2
 have HB0:=hide HI5.out.aw.b0
 clear hfb hfc hs0 hs1
 change Code.wp _ (Code.region _ #[_,_,_,_,id _,_,_,_,_,_,_,_,_,_,_,_,_,_] _) _ _ _
 have hIN:Calls Tryz.prog 77 #[.pointer (some ⟨L,0,none⟩)] w5.drew (BoolR w5.drew):=by
   have hd:=HI5.out.step (Below.refl _ w5).drew
   exact indirect_any N L w5.drew fa hd.h.coms hd.h.tab hd.h.fb hd.h.ltW
 unfold BoolR at hIN
 have HIN:=hide hIN
 clear hIN
 go_region_held3 (fun w'=>w'.cell? ⟨w.heap.size,0,none⟩=some (.pointer (some ⟨f,0,none⟩))∧w'.cell? ⟨w.heap.size+1+1,0,none⟩=some (.pointer (some ⟨L,0,none⟩))) (go_keep)
   (first
     | (go_at_call 77;go_must ((go_fit HIN.out);(rintro e w6 ⟨⟨bb,rfl⟩,hb6⟩);(have hb6':Below w5.heap.size w5 w6:=(Below.refl _ _).drew.trans hb6);(have hI6:=HI5.out.step hb6');(have g0:w6.cell? ⟨w.heap.size,0,none⟩=some (.pointer (some ⟨f,0,none⟩)):=hI6.aw.b0.cell 0 rfl);(have g2:w6.cell? ⟨w.heap.size+1+1,0,none⟩=some (.pointer (some ⟨L,0,none⟩)):=hI6.aw.b2.cell 0 rfl);(have hfb6:=HFB.out.kept (Kp.of_below (X:=fun _=>False) hb6') (fun h=>h));(have g4:w6.cell? ⟨f,4,none⟩=some (.slice sa kk sc):=hfb6.cell 4 HS0.out);(have gf:w6.frozen? ⟨f,4,none⟩=false:=hfb6.free 4);(have hfl6:=hfb6.lt);(have hsz6:=hb6'.size);(have HI6:=hide hI6);(have HO6:=hide (row_below HRW.out hb6' (Nat.le_refl _)));(have HFB6:=hide hfb6);(have HL6:=hide hb6');(clear hb6 hI6 hfb6 hb6')))
     | (have _t:=HO6;refine step_append_lies _ (by rfl) _ _ _ (by rfl) M 99 i1 _ 1 8 Tryz.undsRequire hi1 hy0 hy1 hy2 rfl (by omega) (.slice sa kk sc) kk xs (by rfl) (by repeat (first | exact HO6.out | apply World.ownsRow.alloc | apply World.ownsRow.drew)) ⟨w6.heap.size+1,0,none⟩ 1 1 [.pointer (some ⟨w6.heap.size,0,none⟩)] (by rfl) (by rfl) (news_two _ _ _ _) (by simp [Value.oneCell']) (by omega) hm1 hm2 (by first | omega | (simp;omega)) (w6.heap.size+1+1) (by simp) ?_;intro ga gc w7 hown7 hgrow7 hat7 hlt7;have k7:Ku M (fun _ u=>u=99) w6 w7:=((((Ku.refl M (fun _ u=>u=99) w6).alloc (by omega) _).alloc (by first | omega | (simp;omega)) _)).trans (Ku.of_append ((HO6.out.alloc _).alloc _) hgrow7 (by first | omega | (simp;omega)) (fun _ _=>rfl));have x0:w7.cell? ⟨w.heap.size,0,none⟩=some (.pointer (some ⟨f,0,none⟩)):=(HI6.out.aw.b0.keptU k7 (by decide)).cell 0 rfl;have x2:w7.cell? ⟨w.heap.size+1+1,0,none⟩=some (.pointer (some ⟨L,0,none⟩)):=(HI6.out.aw.b2.keptU k7 (by decide)).cell 0 rfl;have hfb7:=HFB6.out.keptU k7 (by decide);have x4:w7.cell? ⟨f,4,none⟩=some (.slice sa kk sc):=hfb7.cell 4 HS0.out;have xf:w7.frozen? ⟨f,4,none⟩=false:=hfb7.free 4;have HST:=hide (HI6.out.h.st.app (v:=.slice (some ⟨ga,0,none⟩) (kk+1) gc) 4 (by decide) (by decide) k7 hown7 (by omega));have HK7:=hide k7.below;clear hown7 hgrow7 hat7 hlt7 hfb7 k7))
 all_goals go_wp2_with fail
 all_goals go_returns
 all_goals exact AI.good HI6.out HST.out (HK7.out.setCell HI6.out.h.st.lf _) id id True.intro
set_option maxHeartbeats 8000000 in
theorem add_exc (M N:Nat) (w:World) (f E F L:Nat) (b:Option Nat) (nm:ByteArray) (m g:Bool) (n c R:Nat) (cur:Array Value) (fa:Nat→Int) (h:AddH M N w f E F L b nm m g n c R cur fa) (o cap k:Nat) (path:ByteArray) (v:List UInt8) (hx:cur[o]?=some (.string path)) (hy:cur[o+1]?=some (.string (mkS v))) (px:Plain path) (py:Plain (mkS v)) (hv:VerL v) (hk:path.size=k+1) (hc:97≤bt path k∧bt path k≤122) (hf:Lib.hasPrefix path.data.toList gopkg.data.toList=false) :
   Calls Tryz.prog 52 #[.pointer (some ⟨f,0,none⟩),.pointer (some ⟨E,0,none⟩),.pointer (b.map fun X=>⟨X,0,none⟩),.pointer (some ⟨L,0,none⟩),.string ⟨#[101,120,99,108,117,100,101]⟩,.slice (some ⟨R,o,none⟩) 2 (cap+2),.nilFunc,.bool true] w
     (AdR M w f E F nm m g n c (NoX)):=by
 have hmf:∀ (fn:Fn) (first cap:Array Value) (w:World),(Instr.makeFunc fn first cap).run Tryz.prog w=.ok (.func fn first cap) w:=fun _ _ _ _=>rfl
 obtain ⟨i1,hi1,hy1⟩:=Option.map_eq_some_iff.1 Tryz.infExclude
 simp only [Prod.mk.injEq] at hy1
 obtain ⟨hy0,hy1,hy2⟩:=hy1
 obtain ⟨d,hd,⟨r,hr⟩,hsp⟩:=sp_ver hv
 have h0v:0 < (mkS v).size:=by rw [mkS_len,hr];simp
 have hI:=AI.enter (verb:=⟨#[101,120,99,108,117,100,101]⟩) (av:=.slice (some ⟨R,o,none⟩) 2 (cap+2)) h
 clear h
 go_enter Tryz.func52,Tryz.ntmps52
 go_upto_region 11 with fail
 change Code.wp _ _ _ _ (addVars w f E L ⟨#[101,120,99,108,117,100,101]⟩ (.slice (some ⟨R,o,none⟩) 2 (cap+2)) 156 (clV w.heap.size))
 generalize addVars w f E L ⟨#[101,120,99,108,117,100,101]⟩ (.slice (some ⟨R,o,none⟩) 2 (cap+2)) 156 (clV w.heap.size)=W at *
 have q0:W.cell? ⟨w.heap.size,0,none⟩=some (.pointer (some ⟨f,0,none⟩)):=hI.aw.b0.cell 0 rfl
 have q2:W.cell? ⟨w.heap.size+1+1,0,none⟩=some (.pointer (some ⟨L,0,none⟩)):=hI.aw.b2.cell 0 rfl
 have q3:W.cell? ⟨w.heap.size+1+1+1,0,none⟩=some (.string ⟨#[101,120,99,108,117,100,101]⟩):=hI.aw.b3.cell 0 rfl
 have q4:W.cell? ⟨w.heap.size+1+1+1+1,0,none⟩=some (.slice (some ⟨R,o,none⟩) 2 (cap+2)):=hI.aw.b4.cell 0 rfl
 have HC:=hide (parseString_plain R o cur path W hI.h.row hx px.chars px.first px.len px.mq hI.h.pr hI.h.bigW)
 have HV:=hide (fun w1 (h1:AI M N w w1 f E F L b nm ⟨#[101,120,99,108,117,100,101]⟩ (.slice (some ⟨R,o,none⟩) 2 (cap+2)) m g n c R cur fa)=>parseVersion_sp R (o+1) cur ⟨#[101,120,99,108,117,100,101]⟩ path (mkS v) _ w1 h1.h.row hy py hsp h0v h1.h.pr h1.h.bigW)
 have HM:=hide (fun w1=>pathMajor_plain path k w1 hk (by have:=px.len;omega) hc hf)
 have HK:=hide (fun w1=>checkPathMajor_sp v w1 hv)
 clear hx hy px py hv hk hc hf hd hr hsp h0v
 have HI:=hide hI
 clear hI
 go_wp2_with fail
 refine HC.out.mono ?_
 rintro e w1 ⟨rfl,hb1⟩
 have hI1:=HI.out.step hb1
 have p3:=hI1.aw.b3.cell 0 rfl
 have p4:=hI1.aw.b4.cell 0 rfl
 have HI1:=hide hI1
 clear hI1 hb1 HC HI
 go_wp2_with fail
 go_cut [29,28] from 263 to 271 (fun x y wx=>AI M N w wx f E F L b nm ⟨#[101,120,99,108,117,100,101]⟩ (.slice (some ⟨R,o,none⟩) 2 (cap+2)) m g n c R cur fa∧x=.string (mkS v)∧y=.nilIface)
 case first =>
   go_region_held3 (fun w'=>w'.cell? ⟨w.heap.size+1+1+1,0,none⟩=some (.string ⟨#[101,120,99,108,117,100,101]⟩)∧w'.cell? ⟨w.heap.size+1+1+1+1,0,none⟩=some (.slice (some ⟨R,o,none⟩) 2 (cap+2))) (go_keep)
     ((go_fit (HV.out w1.drew (HI1.out.step (Below.refl _ _).drew));rintro e w2 ⟨rfl,hb2⟩;have hI2:=(HI1.out.step (Below.refl _ _).drew).step hb2;have g3:=hI2.aw.b3.cell 0 rfl;have g4:=hI2.aw.b4.cell 0 rfl;have HI2:=hide hI2;clear hb2 hI2))
   all_goals go_wp2_with fail
   all_goals go_meet
   all_goals exact ⟨HI2.out,rfl,rfl⟩
 case rest =>
 obtain ⟨hI3,rfl,rfl⟩:=hcut
 have HI3:=hide hI3
 clear hI3 HI1 HV p3 p4
 go_wp2_with fail
 go_fit (HM.out _)
 rintro e w4 ⟨rfl,rfl⟩
 go_wp2_with fail
 go_fit (HK.out _)
 rintro e w5 ⟨rfl,hb5⟩
 have hI5:=HI3.out.step hb5
 have p3:=hI5.aw.b3.cell 0 rfl
 have HI5:=hide hI5
 clear HI3 HK HM hb5 hI5 q0 q2 q3 q4
 go_upto_region 74 with fail
 have p0:w5.cell? ⟨w.heap.size,0,none⟩=some (.pointer (some ⟨f,0,none⟩)):=HI5.out.aw.b0.cell 0 rfl
 have p2:w5.cell? ⟨w.heap.size+1+1,0,none⟩=some (.pointer (some ⟨L,0,none⟩)):=HI5.out.aw.b2.cell 0 rfl
 obtain ⟨cs,hfb,hfc⟩:=HI5.out.h.st.fb
 obtain ⟨sv,kk,xs,hs0,hs1,hs2⟩:=hfc.rows 5 (by decide) (by decide)
 obtain ⟨sa,sc,rfl⟩:=owns_any hs1
 have p4:w5.cell? ⟨f,5,none⟩=some (.slice sa kk sc):=hfb.cell 5 hs0
 have pf:w5.frozen? ⟨f,5,none⟩=false:=hfb.free 5
 have hfl:=hfb.lt
 have hMW:=HI5.out.h.st.lM
 have hcc:=HI5.out.h.hc
 have hm1:kk+1≤maxLen:=by unfold maxLen;omega
 have hm2:(kk+1) * 8≤140737488355328:=by omega
 have nf0:w.heap.size≠f:=HI5.out.aw.b0.ne hfb (by decide)
 have nf2:w.heap.size+1+1≠f:=HI5.out.aw.b2.ne hfb (by decide)
 have nf0':=nf0.symm
 have nf2':=nf2.symm
 have nfW:f≠w5.heap.size:=by omega
 have HFB:=hide hfb
 have HS0:=hide hs0
 have HRW:=hide (show w5.ownsRow M 102 1 (.slice sa kk sc) kk xs from hs1)
 have HB2:=hide HI5.out.aw.b2
 have HB0:=hide HI5.out.aw.b0
 clear hfb hfc hs0 hs1
 change Code.wp _ (Code.region _ #[_,_,_,_,id _,_,_,_,_,_,_,_,_,_,_,_] _) _ _ _
 go_region_held3 (fun w'=>w'.cell? ⟨w.heap.size,0,none⟩=some (.pointer (some ⟨f,0,none⟩))∧w'.cell? ⟨w.heap.size+1+1,0,none⟩=some (.pointer (some ⟨L,0,none⟩))) (go_keep)
   (first
     | (have _t:=HRW;refine step_append_lies _ (by rfl) _ _ _ (by rfl) M 102 i1 _ 1 8 Tryz.undsExclude hi1 hy0 hy1 hy2 rfl (by omega) (.slice sa kk sc) kk xs (by rfl) (by repeat (first | exact HRW.out | apply World.ownsRow.alloc | apply World.ownsRow.drew)) ⟨w5.heap.size+1,0,none⟩ 1 1 [.pointer (some ⟨w5.heap.size,0,none⟩)] (by rfl) (by rfl) (news_two _ _ _ _) (by simp [Value.oneCell']) (by omega) hm1 hm2 (by first | omega | (simp;omega)) (w5.heap.size+1+1) (by simp) ?_;intro ga gc w7 hown7 hgrow7 hat7 hlt7;have k7:Ku M (fun _ u=>u=102) w5 w7:=((((Ku.refl M (fun _ u=>u=102) w5).drew.alloc (by omega) _).alloc (by first | omega | (simp;omega)) _)).trans (Ku.of_append ((HRW.out.drew.alloc _).alloc _) hgrow7 (by first | omega | (simp;omega)) (fun _ _=>rfl));have x0:w7.cell? ⟨w.heap.size,0,none⟩=some (.pointer (some ⟨f,0,none⟩)):=(HI5.out.aw.b0.keptU k7 (by decide)).cell 0 rfl;have x2:w7.cell? ⟨w.heap.size+1+1,0,none⟩=some (.pointer (some ⟨L,0,none⟩)):=(HI5.out.aw.b2.keptU k7 (by decide)).cell 0 rfl;have hfb7:=HFB.out.keptU k7 (by decide);have x4:w7.cell? ⟨f,5,none⟩=some (.slice sa kk sc):=hfb7.cell 5 HS0.out;have xf:w7.frozen? ⟨f,5,none⟩=false:=hfb7.free 5;have HST:=hide (HI5.out.h.st.app (v:=.slice (some ⟨ga,0,none⟩) (kk+1) gc) 5 (by decide) (by decide) k7 hown7 (by omega));have HK7:=hide k7.below;clear hown7 hgrow7 hat7 hlt7 hfb7 k7))
 all_goals go_wp2_with fail
 all_goals go_returns
 all_goals exact AI.good HI5.out HST.out (HK7.out.setCell HI5.out.h.st.lf _) id id True.intro
set_option maxHeartbeats 8000000 in
theorem add_tool (M N:Nat) (w:World) (f E F L:Nat) (b:Option Nat) (nm:ByteArray) (m g:Bool) (n c R:Nat) (cur:Array Value) (fa:Nat→Int) (h:AddH M N w f E F L b nm m g n c R cur fa) (o cap:Nat) (path:ByteArray) (hx:cur[o]?=some (.string path)) (px:Plain path) :
   Calls Tryz.prog 52 #[.pointer (some ⟨f,0,none⟩),.pointer (some ⟨E,0,none⟩),.pointer (b.map fun X=>⟨X,0,none⟩),.pointer (some ⟨L,0,none⟩),.string ⟨#[116,111,111,108]⟩,.slice (some ⟨R,o,none⟩) 1 (cap+1),.nilFunc,.bool true] w
     (AdR M w f E F nm m g n c (NoX)):=by
 have hmf:∀ (fn:Fn) (first cap:Array Value) (w:World),(Instr.makeFunc fn first cap).run Tryz.prog w=.ok (.func fn first cap) w:=fun _ _ _ _=>rfl
 obtain ⟨i1,hi1,hy1⟩:=Option.map_eq_some_iff.1 Tryz.infTool
 simp only [Prod.mk.injEq] at hy1
 obtain ⟨hy0,hy1,hy2⟩:=hy1
 have hI:=AI.enter (verb:=⟨#[116,111,111,108]⟩) (av:=.slice (some ⟨R,o,none⟩) 1 (cap+1)) h
 clear h
 go_enter Tryz.func52,Tryz.ntmps52
 go_upto_region 11 with fail
 change Code.wp _ _ _ _ (addVars w f E L ⟨#[116,111,111,108]⟩ (.slice (some ⟨R,o,none⟩) 1 (cap+1)) 156 (clV w.heap.size))
 generalize addVars w f E L ⟨#[116,111,111,108]⟩ (.slice (some ⟨R,o,none⟩) 1 (cap+1)) 156 (clV w.heap.size)=W at *
 have q0:W.cell? ⟨w.heap.size,0,none⟩=some (.pointer (some ⟨f,0,none⟩)):=hI.aw.b0.cell 0 rfl
 have q2:W.cell? ⟨w.heap.size+1+1,0,none⟩=some (.pointer (some ⟨L,0,none⟩)):=hI.aw.b2.cell 0 rfl
 have q3:W.cell? ⟨w.heap.size+1+1+1,0,none⟩=some (.string ⟨#[116,111,111,108]⟩):=hI.aw.b3.cell 0 rfl
 have q4:W.cell? ⟨w.heap.size+1+1+1+1,0,none⟩=some (.slice (some ⟨R,o,none⟩) 1 (cap+1)):=hI.aw.b4.cell 0 rfl
 have HC:=hide (parseString_plain R o cur path W hI.h.row hx px.chars px.first px.len px.mq hI.h.pr hI.h.bigW)
 clear hx px
 have HI:=hide hI
 clear hI
 go_wp2_with fail
 refine HC.out.mono ?_
 rintro e w5 ⟨rfl,hb1⟩
 have HI5:=hide (HI.out.step hb1)
 clear hb1 HC HI q0 q2 q3 q4
 go_upto_region 96 with fail
 have p0:w5.cell? ⟨w.heap.size,0,none⟩=some (.pointer (some ⟨f,0,none⟩)):=HI5.out.aw.b0.cell 0 rfl
 have p2:w5.cell? ⟨w.heap.size+1+1,0,none⟩=some (.pointer (some ⟨L,0,none⟩)):=HI5.out.aw.b2.cell 0 rfl
 obtain ⟨cs,hfb,hfc⟩:=HI5.out.h.st.fb
 obtain ⟨sv,kk,xs,hs0,hs1,hs2⟩:=hfc.rows 8 (by decide) (by decide)
 obtain ⟨sa,sc,rfl⟩:=owns_any hs1
 have p4:w5.cell? ⟨f,8,none⟩=some (.slice sa kk sc):=hfb.cell 8 hs0
 have pf:w5.frozen? ⟨f,8,none⟩=false:=hfb.free 8
 have hfl:=hfb.lt
 have hMW:=HI5.out.h.st.lM
 have hcc:=HI5.out.h.hc
 have hm1:kk+1≤maxLen:=by unfold maxLen;omega
 have hm2:(kk+1) * 8≤140737488355328:=by omega
 have nf0:w.heap.size≠f:=HI5.out.aw.b0.ne hfb (by decide)
 have nf2:w.heap.size+1+1≠f:=HI5.out.aw.b2.ne hfb (by decide)
 have nf0':=nf0.symm
 have nf2':=nf2.symm
 have nfW:f≠w5.heap.size:=by omega
 have HFB:=hide hfb
 have HS0:=hide hs0
 have HRW:=hide (show w5.ownsRow M 113 1 (.slice sa kk sc) kk xs from hs1)
 have HB2:=hide HI5.out.aw.b2
 have HB0:=hide HI5.out.aw.b0
 clear hfb hfc hs0 hs1
 change Code.wp _ (Code.region _ #[_,_,_,_,id _,_,_,_,_,_,_,_,_,_] _) _ _ _
 go_region_held3 (fun w'=>w'.cell? ⟨w.heap.size,0,none⟩=some (.pointer (some ⟨f,0,none⟩))∧w'.cell? ⟨w.heap.size+1+1,0,none⟩=some (.pointer (some ⟨L,0,none⟩))) (go_keep)
   (first
     | (have _t:=HRW;refine step_append_lies _ (by rfl) _ _ _ (by rfl) M 113 i1 _ 1 8 Tryz.undsTool hi1 hy0 hy1 hy2 rfl (by omega) (.slice sa kk sc) kk xs (by rfl) (by repeat (first | exact HRW.out | apply World.ownsRow.alloc | apply World.ownsRow.drew)) ⟨w5.heap.size+1,0,none⟩ 1 1 [.pointer (some ⟨w5.heap.size,0,none⟩)] (by rfl) (by rfl) (news_two _ _ _ _) (by simp [Value.oneCell']) (by omega) hm1 hm2 (by first | omega | (simp;omega)) (w5.heap.size+1+1) (by simp) ?_;intro ga gc w7 hown7 hgrow7 hat7 hlt7;have k7:Ku M (fun _ u=>u=113) w5 w7:=((((Ku.refl M (fun _ u=>u=113) w5).drew.alloc (by omega) _).alloc (by first | omega | (simp;omega)) _)).trans (Ku.of_append ((HRW.out.drew.alloc _).alloc _) hgrow7 (by first | omega | (simp;omega)) (fun _ _=>rfl));have x0:w7.cell? ⟨w.heap.size,0,none⟩=some (.pointer (some ⟨f,0,none⟩)):=(HI5.out.aw.b0.keptU k7 (by decide)).cell 0 rfl;have x2:w7.cell? ⟨w.heap.size+1+1,0,none⟩=some (.pointer (some ⟨L,0,none⟩)):=(HI5.out.aw.b2.keptU k7 (by decide)).cell 0 rfl;have hfb7:=HFB.out.keptU k7 (by decide);have x4:w7.cell? ⟨f,8,none⟩=some (.slice sa kk sc):=hfb7.cell 8 HS0.out;have xf:w7.frozen? ⟨f,8,none⟩=false:=hfb7.free 8;have HST:=hide (HI5.out.h.st.app (v:=.slice (some ⟨ga,0,none⟩) (kk+1) gc) 8 (by decide) (by decide) k7 hown7 (by omega));have HK7:=hide k7.below;clear hown7 hgrow7 hat7 hlt7 hfb7 k7))
 all_goals go_wp2_with fail
 all_goals go_returns
 all_goals exact AI.good HI5.out HST.out (HK7.out.setCell HI5.out.h.st.lf _) id id True.intro
set_option maxHeartbeats 8000000 in
theorem add_ign (M N:Nat) (w:World) (f E F L:Nat) (b:Option Nat) (nm:ByteArray) (m g:Bool) (n c R:Nat) (cur:Array Value) (fa:Nat→Int) (h:AddH M N w f E F L b nm m g n c R cur fa) (o cap:Nat) (path:ByteArray) (hx:cur[o]?=some (.string path)) (px:Plain path) :
   Calls Tryz.prog 52 #[.pointer (some ⟨f,0,none⟩),.pointer (some ⟨E,0,none⟩),.pointer (b.map fun X=>⟨X,0,none⟩),.pointer (some ⟨L,0,none⟩),.string ⟨#[105,103,110,111,114,101]⟩,.slice (some ⟨R,o,none⟩) 1 (cap+1),.nilFunc,.bool true] w
     (AdR M w f E F nm m g n c (NoX)):=by
 have hmf:∀ (fn:Fn) (first cap:Array Value) (w:World),(Instr.makeFunc fn first cap).run Tryz.prog w=.ok (.func fn first cap) w:=fun _ _ _ _=>rfl
 obtain ⟨i1,hi1,hy1⟩:=Option.map_eq_some_iff.1 Tryz.infIgnore
 simp only [Prod.mk.injEq] at hy1
 obtain ⟨hy0,hy1,hy2⟩:=hy1
 have hI:=AI.enter (verb:=⟨#[105,103,110,111,114,101]⟩) (av:=.slice (some ⟨R,o,none⟩) 1 (cap+1)) h
 clear h
 go_enter Tryz.func52,Tryz.ntmps52
 go_upto_region 11 with fail
 change Code.wp _ _ _ _ (addVars w f E L ⟨#[105,103,110,111,114,101]⟩ (.slice (some ⟨R,o,none⟩) 1 (cap+1)) 156 (clV w.heap.size))
 generalize addVars w f E L ⟨#[105,103,110,111,114,101]⟩ (.slice (some ⟨R,o,none⟩) 1 (cap+1)) 156 (clV w.heap.size)=W at *
 have q0:W.cell? ⟨w.heap.size,0,none⟩=some (.pointer (some ⟨f,0,none⟩)):=hI.aw.b0.cell 0 rfl
 have q2:W.cell? ⟨w.heap.size+1+1,0,none⟩=some (.pointer (some ⟨L,0,none⟩)):=hI.aw.b2.cell 0 rfl
 have q3:W.cell? ⟨w.heap.size+1+1+1,0,none⟩=some (.string ⟨#[105,103,110,111,114,101]⟩):=hI.aw.b3.cell 0 rfl
 have q4:W.cell? ⟨w.heap.size+1+1+1+1,0,none⟩=some (.slice (some ⟨R,o,none⟩) 1 (cap+1)):=hI.aw.b4.cell 0 rfl
 have HC:=hide (parseString_plain R o cur path W hI.h.row hx px.chars px.first px.len px.mq hI.h.pr hI.h.bigW)
 clear hx px
 have HI:=hide hI
 clear hI
 go_wp2_with fail
 refine HC.out.mono ?_
 rintro e w5 ⟨rfl,hb1⟩
 have HI5:=hide (HI.out.step hb1)
 clear hb1 HC HI q0 q2 q3 q4
 go_upto_region 103 with fail
 have p0:w5.cell? ⟨w.heap.size,0,none⟩=some (.pointer (some ⟨f,0,none⟩)):=HI5.out.aw.b0.cell 0 rfl
 have p2:w5.cell? ⟨w.heap.size+1+1,0,none⟩=some (.pointer (some ⟨L,0,none⟩)):=HI5.out.aw.b2.cell 0 rfl
 obtain ⟨cs,hfb,hfc⟩:=HI5.out.h.st.fb
 obtain ⟨sv,kk,xs,hs0,hs1,hs2⟩:=hfc.rows 9 (by decide) (by decide)
 obtain ⟨sa,sc,rfl⟩:=owns_any hs1
 have p4:w5.cell? ⟨f,9,none⟩=some (.slice sa kk sc):=hfb.cell 9 hs0
 have pf:w5.frozen? ⟨f,9,none⟩=false:=hfb.free 9
 have hfl:=hfb.lt
 have hMW:=HI5.out.h.st.lM
 have hcc:=HI5.out.h.hc
 have hm1:kk+1≤maxLen:=by unfold maxLen;omega
 have hm2:(kk+1) * 8≤140737488355328:=by omega
 have nf0:w.heap.size≠f:=HI5.out.aw.b0.ne hfb (by decide)
 have nf2:w.heap.size+1+1≠f:=HI5.out.aw.b2.ne hfb (by decide)
 have nf0':=nf0.symm
 have nf2':=nf2.symm
 have nfW:f≠w5.heap.size:=by omega
 have HFB:=hide hfb
 have HS0:=hide hs0
 have HRW:=hide (show w5.ownsRow M 116 1 (.slice sa kk sc) kk xs from hs1)
 have HB2:=hide HI5.out.aw.b2
 have HB0:=hide HI5.out.aw.b0
 clear hfb hfc hs0 hs1
 change Code.wp _ (Code.region _ #[_,_,_,_,id _,_,_,_,_,_,_,_,_,_] _) _ _ _
 go_region_held3 (fun w'=>w'.cell? ⟨w.heap.size,0,none⟩=some (.pointer (some ⟨f,0,none⟩))∧w'.cell? ⟨w.heap.size+1+1,0,none⟩=some (.pointer (some ⟨L,0,none⟩))) (go_keep)
   (first
     | (have _t:=HRW;refine step_append_lies _ (by rfl) _ _ _ (by rfl) M 116 i1 _ 1 8 Tryz.undsIgnore hi1 hy0 hy1 hy2 rfl (by omega) (.slice sa kk sc) kk xs (by rfl) (by repeat (first | exact HRW.out | apply World.ownsRow.alloc | apply World.ownsRow.drew)) ⟨w5.heap.size+1,0,none⟩ 1 1 [.pointer (some ⟨w5.heap.size,0,none⟩)] (by rfl) (by rfl) (news_two _ _ _ _) (by simp [Value.oneCell']) (by omega) hm1 hm2 (by first | omega | (simp;omega)) (w5.heap.size+1+1) (by simp) ?_;intro ga gc w7 hown7 hgrow7 hat7 hlt7;have k7:Ku M (fun _ u=>u=116) w5 w7:=((((Ku.refl M (fun _ u=>u=116) w5).drew.alloc (by omega) _).alloc (by first | omega | (simp;omega)) _)).trans (Ku.of_append ((HRW.out.drew.alloc _).alloc _) hgrow7 (by first | omega | (simp;omega)) (fun _ _=>rfl));have x0:w7.cell? ⟨w.heap.size,0,none⟩=some (.pointer (some ⟨f,0,none⟩)):=(HI5.out.aw.b0.keptU k7 (by decide)).cell 0 rfl;have x2:w7.cell? ⟨w.heap.size+1+1,0,none⟩=some (.pointer (some ⟨L,0,none⟩)):=(HI5.out.aw.b2.keptU k7 (by decide)).cell 0 rfl;have hfb7:=HFB.out.keptU k7 (by decide);have x4:w7.cell? ⟨f,9,none⟩=some (.slice sa kk sc):=hfb7.cell 9 HS0.out;have xf:w7.frozen? ⟨f,9,none⟩=false:=hfb7.free 9;have HST:=hide (HI5.out.h.st.app (v:=.slice (some ⟨ga,0,none⟩) (kk+1) gc) 9 (by decide) (by decide) k7 hown7 (by omega));have HK7:=hide k7.below;clear hown7 hgrow7 hat7 hlt7 hfb7 k7))
 all_goals go_wp2_with fail
 all_goals go_returns
 all_goals exact AI.good HI5.out HST.out (HK7.out.setCell HI5.out.h.st.lf _) id id True.intro
end
end Go.Proofs.YtifkpibjeamfkaaGreatFmt
