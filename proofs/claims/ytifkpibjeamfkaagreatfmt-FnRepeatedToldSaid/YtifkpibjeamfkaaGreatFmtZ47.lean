/-
  (*File).add at a replace line.
-/
import Derived.Test.YtifkpibjeamfkaaGreatFmtZ46
set_option linter.unusedVariables false
set_option linter.unusedSimpArgs false
set_option maxRecDepth 100000
namespace Go.Proofs.YtifkpibjeamfkaaGreatFmt
section
open Go.RowKit Go.Proofs
def RepV (w:World) (x y:Value):Prop:=∃ g,(x=.pointer (some ⟨g,0,none⟩)∧y=.pointer none)∨(x=.pointer none∧y=.pointer (some ⟨g,0,none⟩)∧∃ es,Blk w g 146 es∧ErB es)
theorem RepR.tup {w w':World} {e:Ending} (h:RepR w e w'):∃ x y,e=.returned (.tuple #[x,y])∧RepV w' x y∧Below w.heap.size w w':=by
 obtain ⟨g,(rfl | ⟨rfl,es,h1,h2⟩),hb⟩:=h
 · exact ⟨_,_,rfl,⟨g,Or.inl ⟨rfl,rfl⟩⟩,hb⟩
 · exact ⟨_,_,rfl,⟨g,Or.inr ⟨rfl,rfl,es,h1,h2⟩⟩,hb⟩
set_option maxHeartbeats 8000000 in
theorem add_rep (M N:Nat) (w:World) (f E F L:Nat) (b:Option Nat) (nm:ByteArray) (m g:Bool) (n c R:Nat) (cur:Array Value) (fa:Nat→Int) (h:AddH M N w f E F L b nm m g n c R cur fa) (o k cap:Nat) (hrep:∀ W,AddH M N W f E F L b nm m g n c R cur fa→Calls Tryz.prog 78 #[.string nm,.pointer (some ⟨L,0,none⟩),.string ⟨#[114,101,112,108,97,99,101]⟩,.slice (some ⟨R,o,none⟩) k (cap+k),.nilFunc] W (RepR W)) :
   Calls Tryz.prog 52 #[.pointer (some ⟨f,0,none⟩),.pointer (some ⟨E,0,none⟩),.pointer (b.map fun X=>⟨X,0,none⟩),.pointer (some ⟨L,0,none⟩),.string ⟨#[114,101,112,108,97,99,101]⟩,.slice (some ⟨R,o,none⟩) k (cap+k),.nilFunc,.bool true] w
     (AdR M w f E F nm m g n c (NoX)):=by
 have hmf:∀ (fn:Fn) (first cap:Array Value) (w:World),(Instr.makeFunc fn first cap).run Tryz.prog w=.ok (.func fn first cap) w:=fun _ _ _ _=>rfl
 obtain ⟨i1,hi1,hy1⟩:=Option.map_eq_some_iff.1 Tryz.infReplace
 simp only [Prod.mk.injEq] at hy1
 obtain ⟨hy0,hy1,hy2⟩:=hy1
 obtain ⟨i0,hi0,hz1⟩:=Option.map_eq_some_iff.1 Tryz.infoErr
 simp only [Prod.mk.injEq] at hz1
 obtain ⟨z0,hz0,hzz⟩:=Option.map_eq_some_iff.1 hz1.1
 have hz2:=hz1.2.1
 have hz3:=hz1.2.2
 clear hz1
 have hI:=AI.enter (verb:=⟨#[114,101,112,108,97,99,101]⟩) (av:=.slice (some ⟨R,o,none⟩) k (cap+k)) h
 clear h
 go_enter Tryz.func52,Tryz.ntmps52
 go_upto_region 11 with fail
 change Code.wp _ _ _ _ (addVars w f E L ⟨#[114,101,112,108,97,99,101]⟩ (.slice (some ⟨R,o,none⟩) k (cap+k)) 156 (clV w.heap.size))
 generalize addVars w f E L ⟨#[114,101,112,108,97,99,101]⟩ (.slice (some ⟨R,o,none⟩) k (cap+k)) 156 (clV w.heap.size)=W at *
 have q0:W.cell? ⟨w.heap.size,0,none⟩=some (.pointer (some ⟨f,0,none⟩)):=hI.aw.b0.cell 0 rfl
 have q2:W.cell? ⟨w.heap.size+1+1,0,none⟩=some (.pointer (some ⟨L,0,none⟩)):=hI.aw.b2.cell 0 rfl
 have q3:W.cell? ⟨w.heap.size+1+1+1,0,none⟩=some (.string ⟨#[114,101,112,108,97,99,101]⟩):=hI.aw.b3.cell 0 rfl
 have q4:W.cell? ⟨w.heap.size+1+1+1+1,0,none⟩=some (.slice (some ⟨R,o,none⟩) k (cap+k)):=hI.aw.b4.cell 0 rfl
 obtain ⟨cs,hfb,hfc⟩:=hI.h.st.fb
 obtain ⟨ds,hsb,hs0⟩:=hI.h.st.sb
 have q7:W.cell? ⟨f,10,none⟩=some (.pointer (some ⟨F,0,none⟩)):=hfb.cell 10 hfc.syn
 have q8:W.cell? ⟨F,0,none⟩=some (.string nm):=hsb.cell 0 hs0
 have HFB:=hide (And.intro hfb hfc.syn)
 have HSB:=hide (And.intro hsb hs0)
 have HREP:=hide hrep
 clear hfb hfc hsb hs0 hrep
 have HI:=hide hI
 clear hI
 go_upto_region 76 with fail
 go_cut [32,33] from 332 to 346 (fun x y wx=>AI M N w wx f E F L b nm ⟨#[114,101,112,108,97,99,101]⟩ (.slice (some ⟨R,o,none⟩) k (cap+k)) m g n c R cur fa∧RepV wx x y)
 case first =>
   have hD:=(HREP.out W.drew (HI.out.step (Below.refl _ _).drew).h).mono (fun e w' h=>RepR.tup h)
   have HD:=hide hD
   clear hD
   go_region_held3 (fun w'=>w'.cell? ⟨w.heap.size,0,none⟩=some (.pointer (some ⟨f,0,none⟩))∧w'.cell? ⟨w.heap.size+1+1,0,none⟩=some (.pointer (some ⟨L,0,none⟩))∧w'.cell? ⟨w.heap.size+1+1+1,0,none⟩=some (.string ⟨#[114,101,112,108,97,99,101]⟩)∧w'.cell? ⟨w.heap.size+1+1+1+1,0,none⟩=some (.slice (some ⟨R,o,none⟩) k (cap+k))∧w'.cell? ⟨f,10,none⟩=some (.pointer (some ⟨F,0,none⟩))∧w'.cell? ⟨F,0,none⟩=some (.string nm)) (go_keep)
     ((go_fit HD.out;rintro e w2 ⟨x,y,rfl,hv,hb2⟩;have hb2':Below W.heap.size W w2:=(Below.refl _ _).drew.trans hb2;have kp2:=Kp.of_below (X:=fun _=>False) hb2';have hI2:=HI.out.step hb2';have g0:=hI2.aw.b0.cell 0 rfl;have g2:=hI2.aw.b2.cell 0 rfl;have g3:=hI2.aw.b3.cell 0 rfl;have g4:=hI2.aw.b4.cell 0 rfl;have g7:=(HFB.out.1.kept kp2 (fun h=>h)).cell 10 HFB.out.2;have g8:=(HSB.out.1.kept kp2 (fun h=>h)).cell 0 HSB.out.2;have HI2:=hide (And.intro hI2 hv);clear hb2 hb2' kp2 hI2 hv))
   all_goals go_wp2_with fail
   all_goals go_meet
   all_goals exact ⟨HI2.out.1,HI2.out.2⟩
 case rest =>
 obtain ⟨hI3,gg,(⟨rfl,rfl⟩ | ⟨rfl,rfl,es,he,hes⟩)⟩:=hcut
 · have HI3:=hide hI3
   clear hI3 HI HFB HSB HREP q0 q2 q3 q4 q7 q8
   go_upto_region 79 with fail
   have p0:wc.cell? ⟨w.heap.size,0,none⟩=some (.pointer (some ⟨f,0,none⟩)):=HI3.out.aw.b0.cell 0 rfl
   have p2:wc.cell? ⟨w.heap.size+1+1,0,none⟩=some (.pointer (some ⟨L,0,none⟩)):=HI3.out.aw.b2.cell 0 rfl
   obtain ⟨cs,hfb,hfc⟩:=HI3.out.h.st.fb
   obtain ⟨sv,kk,xs,hs0,hs1,hs2⟩:=hfc.rows 6 (by decide) (by decide)
   obtain ⟨sa,sc,rfl⟩:=owns_any hs1
   have p4:wc.cell? ⟨f,6,none⟩=some (.slice sa kk sc):=hfb.cell 6 hs0
   have pf:wc.frozen? ⟨f,6,none⟩=false:=hfb.free 6
   have hfl:=hfb.lt
   have hMW:=HI3.out.h.st.lM
   have hcc:=HI3.out.h.hc
   have hm1:kk+1≤maxLen:=by unfold maxLen;omega
   have hm2:(kk+1) * 8≤140737488355328:=by omega
   have nf0:w.heap.size≠f:=HI3.out.aw.b0.ne hfb (by decide)
   have nf2:w.heap.size+1+1≠f:=HI3.out.aw.b2.ne hfb (by decide)
   have nf0':=nf0.symm
   have nf2':=nf2.symm
   have nfW:f≠wc.heap.size:=by omega
   have HFB:=hide hfb
   have HS0:=hide hs0
   have HRW:=hide (show wc.ownsRow M 105 1 (.slice sa kk sc) kk xs from hs1)
   have HB2:=hide HI3.out.aw.b2
   have HB0:=hide HI3.out.aw.b0
   clear hfb hfc hs0 hs1
   change Code.wp _ (Code.region _ #[_,_,_,_,id _,_,_,_,_,_,_] _) _ _ _
   go_region_held3 (fun w'=>w'.cell? ⟨w.heap.size,0,none⟩=some (.pointer (some ⟨f,0,none⟩))∧w'.cell? ⟨w.heap.size+1+1,0,none⟩=some (.pointer (some ⟨L,0,none⟩))) (go_keep)
     (first
       | (have _t:=HRW;refine step_append_lies _ (by rfl) _ _ _ (by rfl) M 105 i1 _ 1 8 Tryz.undsReplace hi1 hy0 hy1 hy2 rfl (by omega) (.slice sa kk sc) kk xs (by rfl) (by repeat (first | exact HRW.out | apply World.ownsRow.alloc | apply World.ownsRow.drew)) ⟨wc.heap.size,0,none⟩ 1 1 [.pointer (some ⟨gg,0,none⟩)] (by rfl) (by rfl) (news_one _ _ _) (by simp [Value.oneCell']) (by omega) hm1 hm2 (by first | omega | (simp;omega)) (wc.heap.size+1) (by simp) ?_;intro ga gc w7 hown7 hgrow7 hat7 hlt7;have k7:Ku M (fun _ u=>u=105) wc w7:=((((Ku.refl M (fun _ u=>u=105) wc).drew.alloc (by omega) _))).trans (Ku.of_append ((HRW.out.drew.alloc _)) hgrow7 (by first | omega | (simp;omega)) (fun _ _=>rfl));have x0:w7.cell? ⟨w.heap.size,0,none⟩=some (.pointer (some ⟨f,0,none⟩)):=(HI3.out.aw.b0.keptU k7 (by decide)).cell 0 rfl;have x2:w7.cell? ⟨w.heap.size+1+1,0,none⟩=some (.pointer (some ⟨L,0,none⟩)):=(HI3.out.aw.b2.keptU k7 (by decide)).cell 0 rfl;have hfb7:=HFB.out.keptU k7 (by decide);have x4:w7.cell? ⟨f,6,none⟩=some (.slice sa kk sc):=hfb7.cell 6 HS0.out;have xf:w7.frozen? ⟨f,6,none⟩=false:=hfb7.free 6;have HST:=hide (HI3.out.h.st.app (v:=.slice (some ⟨ga,0,none⟩) (kk+1) gc) 6 (by decide) (by decide) k7 hown7 (by omega));have HK7:=hide k7.below;clear hown7 hgrow7 hat7 hlt7 hfb7 k7))
   all_goals go_wp2_with fail
   all_goals go_returns
   all_goals exact AI.good HI3.out HST.out (HK7.out.setCell HI3.out.h.st.lf _) id id True.intro
 · have HI3:=hide hI3
   clear hI3 HI HFB HSB HREP q0 q2 q3 q4 q7 q8
   obtain ⟨nm',e1,e2,e3,et,ev,rfl⟩:=hes
   go_upto_region 78 with fail
   have p1:wc.cell? ⟨w.heap.size+1,0,none⟩=some (.pointer (some ⟨E,0,none⟩)):=HI3.out.aw.b1.cell 0 rfl
   obtain ⟨u,xs,heb,hr⟩:=HI3.out.h.st.eb
   obtain ⟨ua,uc,rfl⟩:=owns_any hr
   have e0:wc.cell? ⟨E,0,none⟩=some (.slice ua n uc):=heb.cell 0 rfl
   have fE:∀ j,wc.frozen? ⟨E,j,none⟩=false:=fun j=>heb.free j
   have g0:=he.cell 0 rfl
   have g1:=he.cell 1 rfl
   have g2:=he.cell 2 rfl
   have g3:=he.cell 3 rfl
   have g4:=he.cell 4 rfl
   have g5:=he.cell 5 rfl
   have g6:=he.cell 6 rfl
   have n1:w.heap.size+1≠E:=HI3.out.aw.b1.ne heb (by decide)
   have n2:gg≠E:=he.ne heb (by decide)
   have n1':=n1.symm
   have n2':=n2.symm
   have wE:=World.new_ne wc _ p1
   have wg:=World.new_ne wc _ g0
   have w3:=World.new_ne wc _ e0
   simp only at wE wg w3
   have wl:=heb.lt
   have hlM:=HI3.out.h.st.lM
   have hnc:=HI3.out.h.st.nc
   have hcc:=HI3.out.h.hc
   have HR:=hide hr
   have HEB:=hide heb
   have hm1:n+1≤maxLen:=by unfold maxLen;omega
   have hm2:(n+1) * 88≤140737488355328:=by omega
   clear heb hr he
   change Code.wp _ (Code.region _ #[_,_,_,id _,_,_,id _,_,_,_,_] _) _ _ _
   go_region_held3 (fun w'=>w'.cell? ⟨w.heap.size+1,0,none⟩=some (.pointer (some ⟨E,0,none⟩))) (go_keep)
     ((refine step_append_lies _ (by rfl) _ _ _ (by rfl) M 146 i0 _ 7 88 Tryz.und_errs hi0 hz0 hz2 hz3 hzz (by omega) (.slice ua n uc) n xs (by rfl) (by repeat (first | exact HR.out | apply World.ownsRow.alloc | apply World.ownsRow.drew)) ⟨wc.heap.size,0,none⟩ 1 1 [.string nm',.int .i64 e1,.int .i64 e2,.int .i64 e3,.string ⟨#[]⟩,.string ⟨#[]⟩,.iface et ev] (by rfl) (by rfl) (news_one _ _ _) (by simp [Value.oneCell']) (by omega) hm1 hm2 (by simp;omega) (wc.heap.size+1) (by simp) ?_;intro ga cap' w3' hown3 hgrow3 hat3 hlt3;have k3:Ku M (fun _ u=>u=146) wc w3':=(((Ku.refl M (fun _ u=>u=146) wc).drew).alloc hlM _).trans (Ku.of_append (HR.out.drew.alloc _) hgrow3 (by simp;omega) (fun _ _=>rfl));have HST:=hide (HI3.out.h.st.err (v:=.slice (some ⟨ga,0,none⟩) (n+1) cap') k3 hown3);have gE:=(HI3.out.aw.b1.keptU k3 (by decide)).cell 0 rfl;have hE3:=HEB.out.keptU k3 (by decide);have d0:w3'.cell? ⟨E,0,none⟩=some (.slice ua n uc):=hE3.cell 0 rfl;have fd:∀ j,w3'.frozen? ⟨E,j,none⟩=false:=fun j=>hE3.free j;have HK3:=hide ((k3.mono (S':=fun _ t=>t=146∨t=121) (fun _ _ e=>Or.inl e)).set (u:=.slice (some ⟨ga,0,none⟩) (n+1) cap') (b:=E) (o:=0) HI3.out.h.st.lE (fun cs t fz e=>Or.inr (by rw [HEB.out.out] at e;injection e with e;injection e with _ e;exact e.symm)));clear hown3 hgrow3 hat3 hlt3 k3 hE3))
   all_goals go_wp2_with fail
   all_goals go_returns
   all_goals exact AI.fail HI3.out ⟨rfl,HST.out,HK3.out⟩ True.intro
end
end Go.Proofs.YtifkpibjeamfkaaGreatFmt
