/-
  A content's text with a line behind it is its document.
  (*File).add at a module line.
  What parseToFile's loop has done so far; the tree's lines as add wants them.
  parse at any tokens: the tree, or the error of a block that is not closed.
  A content's document is ASCII.
-/
import Derived.Test.YtifkpibjeamfkaaGreatFmtZ44
import Derived.Test.YtifkpibjeamfkaaGreatFmtZ39
import Derived.Test.YtifkpibjeamfkaaGreatFmtZ30
import Derived.Test.YtifkpibjeamfkaaGreatFmtZ34
import Derived.Test.YtifkpibjeamfkaaGreatFmtZ33
import Derived.Test.YtifkpibjeamfkaaGreatFmtZ13
import Derived.LaidEql
set_option linter.unusedVariables false
set_option linter.unusedSimpArgs false
set_option maxRecDepth 100000
namespace Go.Proofs.YtifkpibjeamfkaaGreatFmt
section
open Go.RowKit Go.Proofs
theorem endTxt_com (c:Option (List UInt8 × List UInt8)):endTxt c=comT c++[10]:=by
 cases c with
 | none=>rfl
 | some x=>simp [endTxt,comT]
theorem docG_nil:docG []=[]:=rfl
theorem docG_why (g y:List UInt8):docG (whyD g y)=if y=[] then [] else g++whyT y:=by
 unfold whyD whyT
 by_cases h:y=[]
 · simp [h,docG]
 · simp [h,docG,Dl.txt,endTxt,wsTxt_nil]
theorem blank_txt:blank.txt=[10]:=rfl
theorem docG_N (v:List UInt8) (i:Itm):docG (itmN v i)=stmT v (itP i)++[10]:=by
 unfold itmN
 rw [docG_append,docG_why,docG_cons,docG_cons,docG_nil,blank_txt]
 simp only [Dl.txt,wsTxt_cons,endTxt_com,stmT,itP,itmT,whyT]
 by_cases h:i.why=[] <;> simp [h]
theorem docG_secN (v:List UInt8) (is:List Itm):docG (secN v is)=((is.map itP).map (stmT v)).flatMap (fun x=>x++[10]):=by
 induction is with
 | nil=>rfl
 | cons i is ih =>
   have e:secN v (i :: is)=itmN v i++secN v is:=by simp [secN]
   rw [e,docG_append,docG_N,ih]
   simp
theorem docG_B (i:Itm):docG (itmB i)=lnT1 (itP i):=by
 unfold itmB
 rw [docG_append,docG_why,docG_cons,docG_nil]
 simp only [Dl.txt,wsTxt_cons,endTxt_com,lnT1,itP,itmT]
 by_cases h:i.why=[] <;> simp [h]
theorem docG_body (is:List Itm):docG (bodyD is)=lnsT (is.map itP):=by
 induction is with
 | nil=>rfl
 | cons i is ih =>
   have e:bodyD (i :: is)=itmB i++bodyD is:=by simp [bodyD]
   rw [e,docG_append,docG_B,ih]
   simp [lnsT]
theorem docG_secD (blk:Bool) (v:List UInt8) (is:List Itm):docG (secD blk v is)=(secS v (is.map itP) blk).flatMap (fun x=>x++[10]):=by
 unfold secD secS
 cases blk with
 | false=>simp only [Bool.false_eq_true,if_false,false_and];exact docG_secN v is
 | true =>
   simp only [if_true,true_and]
   cases is with
   | nil=>simp [secB,docG]
   | cons i is =>
     rw [if_pos (by simp)]
     have e:secB v (i :: is)=headD v :: (bodyD (i :: is)++[closeD,blank]):=rfl
     rw [e,docG_cons,docG_append,docG_body]
     simp [docG,headD,closeD,blank,Dl.txt,wsTxt_cons,wsTxt_nil,endTxt]
theorem docG_optL (v p:List UInt8):docG (optL v p)=(optS v p).flatMap (fun x=>x++[10]):=by
 unfold optL optS
 split
 · rfl
 · simp [docG,wordL,blank,Dl.txt,wsTxt_cons,wsTxt_nil,endTxt]
theorem joinS_end (l:List (List UInt8)) (h:l≠[]) (t:List UInt8):joinS l++10 :: t=l.flatMap (fun x=>x++[10])++t:=by
 cases l with
 | nil=>exact absurd rfl h
 | cons a r =>
   simp only [joinS,List.flatMap_cons,List.append_assoc]
   congr 1
   induction r with
   | nil=>simp
   | cons b r ih =>
     simp only [List.flatMap_cons,List.append_assoc,List.cons_append,List.nil_append] at ih ⊢
     congr 2
     exact ih (by simp)
theorem text_doc (c:Cont) (blk:Bool) (tv tp:List UInt8):docG (docOf c blk tv tp)=joinS (listS c blk)++10 :: (tv++32 :: (tp++[10])):=by
 rw [joinS_end _ (by simp [listS,listS8,listS7,listS6,listS5,listS4,listS3,listS2,listS1,secS])]
 have e1:∀ (v p:List UInt8),(wordL v p).txt=v++32 :: (p++[10]):=fun v p=>by simp [wordL,Dl.txt,wsTxt_cons,wsTxt_nil,endTxt]
 have e2:listS1 c=[moW++32 :: (c.mod++[10])]:=by simp [listS1,secS,stmT,whyT]
 unfold docOf bodyOf
 simp only [docG_cons,docG_append,docG_nil,docG_optL,docG_secD,e1,blank_txt,listS,listS8,listS7,listS6,listS5,listS4,listS3,listS2,e2,List.flatMap_append,List.flatMap_cons,List.flatMap_nil,List.map_map,List.append_assoc,List.append_nil]
 rfl
end
section
open Go.RowKit Go.Proofs
set_option maxHeartbeats 8000000 in
theorem add_mod (M N:Nat) (w:World) (f E F L:Nat) (b:Option Nat) (nm:ByteArray) (m g:Bool) (n c R:Nat) (cur:Array Value) (fa:Nat→Int) (h:AddH M N w f E F L b nm m g n c R cur fa) (o cap:Nat) (path:ByteArray) (hx:cur[o]?=some (.string path)) (px:Plain path) :
   Calls Tryz.prog 52 #[.pointer (some ⟨f,0,none⟩),.pointer (some ⟨E,0,none⟩),.pointer (b.map fun X=>⟨X,0,none⟩),.pointer (some ⟨L,0,none⟩),.string ⟨#[109,111,100,117,108,101]⟩,.slice (some ⟨R,o,none⟩) 1 (cap+1),.nilFunc,.bool true] w
     (AdR M w f E F nm m g n c (MoX m n)):=by
 have hmf:∀ (fn:Fn) (first cap:Array Value) (w:World),(Instr.makeFunc fn first cap).run Tryz.prog w=.ok (.func fn first cap) w:=fun _ _ _ _=>rfl
 have hI:=AI.enter (verb:=⟨#[109,111,100,117,108,101]⟩) (av:=.slice (some ⟨R,o,none⟩) 1 (cap+1)) h
 clear h
 go_enter Tryz.func52,Tryz.ntmps52
 go_upto_region 11 with fail
 change Code.wp _ _ _ _ (addVars w f E L ⟨#[109,111,100,117,108,101]⟩ (.slice (some ⟨R,o,none⟩) 1 (cap+1)) 156 (clV w.heap.size))
 generalize addVars w f E L ⟨#[109,111,100,117,108,101]⟩ (.slice (some ⟨R,o,none⟩) 1 (cap+1)) 156 (clV w.heap.size)=W at *
 have q0:W.cell? ⟨w.heap.size,0,none⟩=some (.pointer (some ⟨f,0,none⟩)):=hI.aw.b0.cell 0 rfl
 have q2:W.cell? ⟨w.heap.size+1+1,0,none⟩=some (.pointer (some ⟨L,0,none⟩)):=hI.aw.b2.cell 0 rfl
 have q3:W.cell? ⟨w.heap.size+1+1+1,0,none⟩=some (.string ⟨#[109,111,100,117,108,101]⟩):=hI.aw.b3.cell 0 rfl
 have q4:W.cell? ⟨w.heap.size+1+1+1+1,0,none⟩=some (.slice (some ⟨R,o,none⟩) 1 (cap+1)):=hI.aw.b4.cell 0 rfl
 obtain ⟨cs,hfb,hfc⟩:=hI.h.st.fb
 obtain ⟨p,hp,hpm⟩:=hfc.mod
 have q7:W.cell? ⟨f,0,none⟩=some (.pointer p):=hfb.cell 0 hp
 have HFB:=hide hfb
 have HSZ:=hide hfc.size
 have HP0:=hide hp
 have HX:=hide hx
 have HPX:=hide px
 clear hfb hfc hp hx px
 have HI:=hide hI
 clear hI
 rcases p with _ | p
 · obtain rfl:m=false:=by simpa using hpm.symm
   clear hpm
   go_wp2_with fail
   go_fit (deprecation_any N L b W fa HI.out.h.coms HI.out.h.bk HI.out.h.tab HI.out.h.ltW)
   rintro e w1 ⟨⟨dep,rfl⟩,hb1⟩
   have hI1:=HI.out.step hb1
   have d0:w1.cell? ⟨w.heap.size,0,none⟩=some (.pointer (some ⟨f,0,none⟩)):=hI1.aw.b0.cell 0 rfl
   have d2:w1.cell? ⟨w.heap.size+1+1,0,none⟩=some (.pointer (some ⟨L,0,none⟩)):=hI1.aw.b2.cell 0 rfl
   have d4:w1.cell? ⟨w.heap.size+1+1+1+1,0,none⟩=some (.slice (some ⟨R,o,none⟩) 1 (cap+1)):=hI1.aw.b4.cell 0 rfl
   have hfb1:=HFB.out.kept (Kp.of_below (X:=fun _=>False) hb1) (fun h=>h)
   have f0:w1.cell? ⟨f,0,none⟩=some (.pointer none):=hfb1.cell 0 HP0.out
   have ff:w1.frozen? ⟨f,0,none⟩=false:=hfb1.free 0
   have hfl:=hfb1.lt
   have hRl:=hI1.h.row.lt
   have hHl:=hI1.aw.b4.lt
   have HI1:=hide hI1
   have HFB1:=hide hfb1
   clear hI1 hfb1 hb1 HI HFB q0 q2 q3 q4 q7
   go_upto_region 43 with fail
   have nf0:w.heap.size≠f:=HI1.out.aw.b0.ne HFB1.out (by decide)
   have nf4:w.heap.size+1+1+1+1≠f:=HI1.out.aw.b4.ne HFB1.out (by decide)
   have nfR:R≠f:=HI1.out.h.row.ne HFB1.out (by decide)
   have r0:=((HI1.out.aw.b0.set_other (a:=⟨f,0,none⟩) nf0 (.pointer (some ⟨w1.heap.size,0,none⟩))).alloc (Obj.cells #[.string ⟨#[]⟩,.string ⟨#[]⟩,.string dep,.pointer (some ⟨L,0,none⟩)] 94))
   have r4:=((HI1.out.aw.b4.set_other (a:=⟨f,0,none⟩) nf4 (.pointer (some ⟨w1.heap.size,0,none⟩))).alloc (Obj.cells #[.string ⟨#[]⟩,.string ⟨#[]⟩,.string dep,.pointer (some ⟨L,0,none⟩)] 94))
   have r6:=((HI1.out.h.row.set_other (a:=⟨f,0,none⟩) nfR (.pointer (some ⟨w1.heap.size,0,none⟩))).alloc (Obj.cells #[.string ⟨#[]⟩,.string ⟨#[]⟩,.string dep,.pointer (some ⟨L,0,none⟩)] 94))
   have r1:=((HFB1.out.set 0 (.pointer (some ⟨w1.heap.size,0,none⟩))).alloc (Obj.cells #[.string ⟨#[]⟩,.string ⟨#[]⟩,.string dep,.pointer (some ⟨L,0,none⟩)] 94))
   have hsz:(w1.setCell ⟨f,0,none⟩ (.pointer (some ⟨w1.heap.size,0,none⟩))).heap.size=w1.heap.size:=by simp
   have rg:=Blk.newAt (w1.setCell ⟨f,0,none⟩ (.pointer (some ⟨w1.heap.size,0,none⟩))) 94 #[.string ⟨#[]⟩,.string ⟨#[]⟩,.string dep,.pointer (some ⟨L,0,none⟩)] _ hsz
   have HST:=hide ((HI1.out.h.st.ptr 0 (by decide) ⟨w1.heap.size,0,none⟩).below ((Below.refl _ _).alloc (Nat.le_refl _) (Obj.cells #[.string ⟨#[]⟩,.string ⟨#[]⟩,.string dep,.pointer (some ⟨L,0,none⟩)] 94)))
   have HBL:=hide ((((Below.refl M w1).setCell (p:=⟨f,0,none⟩) HI1.out.h.st.lf (.pointer (some ⟨w1.heap.size,0,none⟩))).alloc (by simpa using HI1.out.h.st.lM) (Obj.cells #[.string ⟨#[]⟩,.string ⟨#[]⟩,.string dep,.pointer (some ⟨L,0,none⟩)] 94)))
   have hszA:((w1.setCell ⟨f,0,none⟩ (.pointer (some ⟨w1.heap.size,0,none⟩))).alloc (Obj.cells #[.string ⟨#[]⟩,.string ⟨#[]⟩,.string dep,.pointer (some ⟨L,0,none⟩)] 94)).heap.size=w1.heap.size+1:=by simp
   have hMW:=HI1.out.h.st.lM
   generalize ((w1.setCell ⟨f,0,none⟩ (.pointer (some ⟨w1.heap.size,0,none⟩))).alloc (Obj.cells #[.string ⟨#[]⟩,.string ⟨#[]⟩,.string dep,.pointer (some ⟨L,0,none⟩)] 94))=W2 at *
   have z0:W2.cell? ⟨w.heap.size,0,none⟩=some (.pointer (some ⟨f,0,none⟩)):=r0.cell 0 rfl
   have z4:W2.cell? ⟨w.heap.size+1+1+1+1,0,none⟩=some (.slice (some ⟨R,o,none⟩) 1 (cap+1)):=r4.cell 0 rfl
   have hpr2:PrTab W2:=HI1.out.h.pr.keptT (N:=M) (S:=fun _=>True) ⟨HBL.out,fun k cs t fz e hn=>absurd True.intro hn⟩ HI1.out.h.big
   have hps:=parseString_plain R o cur path W2 r6 HX.out HPX.out.chars HPX.out.first HPX.out.len HPX.out.mq hpr2 (by have:=HI1.out.h.big;omega)
   have HR0:=hide r0
   have HR1:=hide r1
   have HRG:=hide rg
   have HPS:=hide hps
   clear r0 r4 r6 r1 rg hpr2 hps
   go_wp2_with fail
   refine HPS.out.mono ?_
   rintro e w3 ⟨rfl,hb3⟩
   have kp3:=Kp.of_below (X:=fun _=>False) hb3
   have y0:w3.cell? ⟨w.heap.size,0,none⟩=some (.pointer (some ⟨f,0,none⟩)):=(HR0.out.kept kp3 (fun h=>h)).cell 0 rfl
   have y1:w3.cell? ⟨f,0,none⟩=some (.pointer (some ⟨w1.heap.size,0,none⟩)):=(HR1.out.kept kp3 (fun h=>h)).cell 0 (by simp [HSZ.out])
   have hg3:=HRG.out.kept kp3 (fun h=>h)
   have y2:w3.cell? ⟨w1.heap.size,0,none⟩=some (.string ⟨#[]⟩):=hg3.cell 0 rfl
   have y3:w3.cell? ⟨w1.heap.size,1,none⟩=some (.string ⟨#[]⟩):=hg3.cell 1 rfl
   have y4:w3.frozen? ⟨w1.heap.size,0,none⟩=false:=hg3.free 0
   have y5:w3.frozen? ⟨w1.heap.size,1,none⟩=false:=hg3.free 1
   have HG3:=hide hg3
   have HST3:=hide (HST.out.below hb3)
   have HB3:=hide (HBL.out.trans (hb3.mono (by omega)))
   clear kp3 hg3 hb3
   go_wp2_with fail
   go_returns
   have k3:Ku M (fun _ u=>u=94) w3 ((w3.setCell ⟨w1.heap.size,0,none⟩ (.string path)).setCell ⟨w1.heap.size,1,none⟩ (.string ⟨#[]⟩)):=((Ku.refl M _ w3).set_blk hMW HG3.out rfl).set_blk hMW HG3.out rfl
   exact AI.good HI1.out ((HST3.out.other k3 (by decide)).more (Nat.le_succ c)) (HB3.out.trans k3.below) (by simp) (by simp) ⟨fun e=>Bool.noConfusion e,fun _=>by simp⟩
 · obtain rfl:m=true:=by simpa using hpm.symm
   clear hpm
   go_wp2_with fail
   go_fit ((HI.out.step (by repeat (with_reducible first | exact Below.refl _ _ | refine Below.drew ?_ | refine Below.alloc ?_ (by first | exact Nat.le_refl _ | (simp <;> omega)) _))).errorf _ _)
   rintro e w9 ⟨rfl,hE⟩
   have HE:=hide hE
   clear hE
   go_wp2_with fail
   go_returns
   exact AI.fail (HI.out.step (by repeat (with_reducible first | exact Below.refl _ _ | refine Below.drew ?_ | refine Below.alloc ?_ (by first | exact Nat.le_refl _ | (simp <;> omega)) _))) ⟨rfl,HE.out⟩ ⟨fun _=>Nat.lt_succ_self n,fun e=>Bool.noConfusion e⟩
end
section
open Go.RowKit Go.Proofs
def AdX (v:List UInt8) (args:List (List UInt8)) (m g:Bool) (n:Nat) (m' g':Bool) (n':Nat):Prop :=
 (v=moW→MoX m n m' g' n')∧(v=goW→GoX g n m' g' n')∧(v=rqW∧args.length≠2→ErX n m' g' n')
def lnN:Stm→Nat
 | .line _ _=>1
 | .block _ _ ls=>ls.length
theorem FileP.lns {l:List Tk} {ss:List Stm} {b:Bool} (h:FileP l ss b):(ss.map lnN).sum≤l.length:=by
 induction h with
 | eof c h=>simp
 | skip c cs ss b h r ih=>simp only [List.length_cons];omega
 | line t ts nl cs ss b h1 h2 h3 hw hn r ih=>simp only [List.map_cons,List.sum_cons,lnN,List.length_cons,List.length_append];omega
 | block t ts lp e cs cs' ls ss b h1 h2 h3 hw hl he hb r ih =>
   have:=hb.lines
   simp only [List.map_cons,List.sum_cons,lnN,List.length_cons,List.length_append,restLen] at this ih ⊢
   omega
 | bad t ts lp e cs ls h1 h2 h3 hw hl he hb=>simp
def isV (v:List UInt8):StT→Bool
 | .line u _=>u == v
 | .block _ _ _=>false
def cntV (v:List UInt8) (ss:List StT):Nat:=ss.countP (isV v)
theorem cntV_app (v:List UInt8) (a b:List StT):cntV v (a++b)=cntV v a+cntV v b:=List.countP_append
theorem cntV_line (v u:List UInt8) (a:List (List UInt8)):cntV v [.line u a]=if u=v then 1 else 0:=by
 unfold cntV
 by_cases h:u=v
 · simp [isV,h]
 · simp [isV,h]
theorem cntV_block (v u:List UInt8) (a:List (List UInt8)) (ls:List (List (List UInt8))):cntV v [.block u a ls]=0:=by simp [cntV,isV]
structure Prog (ss:List StT) (m g:Bool) (n:Nat):Prop where
 mo1:1≤cntV moW ss→m=true∨0 < n
 mo2:2≤cntV moW ss→0 < n
 go1:1≤cntV goW ss→g=true∨0 < n
 go2:2≤cntV goW ss→0 < n
 lg:(∃ s ∈ ss,LongS s)→0 < n
theorem Prog.nil:Prog [] false false 0:=⟨fun h=>by simp [cntV] at h,fun h=>by simp [cntV] at h,fun h=>by simp [cntV] at h,fun h=>by simp [cntV] at h,fun ⟨_,h,_⟩=>by cases h⟩
theorem lg_app {ss:List StT} {s:StT} (h:∃ x ∈ ss++[s],LongS x):(∃ x ∈ ss,LongS x)∨LongS s:=by
 obtain ⟨x,hx,hl⟩:=h
 rcases List.mem_append.1 hx with hx | hx
 · exact Or.inl ⟨x,hx,hl⟩
 · obtain rfl:=List.mem_singleton.1 hx
   exact Or.inr hl
theorem Prog.line {ss:List StT} {m g m' g':Bool} {n n':Nat} (h:Prog ss m g n) {v:List UInt8} {a:List (List UInt8)} (hx:AdX v a m g n m' g' n') (hn:n≤n') (hm:m=true→m'=true) (hg:g=true→g'=true):Prog (ss++[.line v a]) m' g' n':=by
 obtain ⟨x1,x2,x3⟩:=hx
 refine ⟨?_,?_,?_,?_,?_⟩
 · rw [cntV_app,cntV_line]
   intro h1
   by_cases hv:v=moW
   · have:=x1 hv
     cases hmm:m with
     | true=>exact Or.inl (hm hmm)
     | false=>exact Or.inl (this.2 hmm)
   · rw [if_neg hv] at h1
     rcases h.mo1 h1 with h2 | h2
     · exact Or.inl (hm h2)
     · exact Or.inr (by omega)
 · rw [cntV_app,cntV_line]
   intro h1
   by_cases hv:v=moW
   · have:=x1 hv
     rw [if_pos hv] at h1
     rcases h.mo1 (by omega) with h2 | h2
     · have:=this.1 h2;omega
     · omega
   · rw [if_neg hv] at h1
     have:=h.mo2 h1;omega
 · rw [cntV_app,cntV_line]
   intro h1
   by_cases hv:v=goW
   · have:=x2 hv
     rcases this.2 with h2 | h2
     · exact Or.inl h2
     · exact Or.inr (by omega)
   · rw [if_neg hv] at h1
     rcases h.go1 h1 with h2 | h2
     · exact Or.inl (hg h2)
     · exact Or.inr (by omega)
 · rw [cntV_app,cntV_line]
   intro h1
   by_cases hv:v=goW
   · have:=x2 hv
     rw [if_pos hv] at h1
     rcases h.go1 (by omega) with h2 | h2
     · have:=this.1 h2;omega
     · omega
   · rw [if_neg hv] at h1
     have:=h.go2 h1;omega
 · intro h1
   rcases lg_app h1 with h1 | h1
   · have:=h.lg h1;omega
   · have h2:n < n':=x3 h1
     omega
def ProgB (v:List UInt8) (ls:List (List (List UInt8))) (n:Nat):Prop:=(v=rqW∧∃ l ∈ ls,l.length≠2)→0 < n
theorem ProgB.line {v:List UInt8} {ls:List (List (List UInt8))} {a:List (List UInt8)} {m g m' g':Bool} {n n':Nat} (h:ProgB v ls n) (hx:AdX v a m g n m' g' n') (hn:n≤n'):ProgB v (ls++[a]) n':=by
 rintro ⟨hv,l,hl,hne⟩
 rcases List.mem_append.1 hl with hl | hl
 · have:=h ⟨hv,l,hl,hne⟩;omega
 · obtain rfl:=List.mem_singleton.1 hl
   have h2:n < n':=hx.2.2 ⟨hv,hne⟩
   omega
theorem Prog.block {ss:List StT} {m g m' g':Bool} {n n':Nat} (h:Prog ss m g n) {v:List UInt8} {a:List (List UInt8)} {ls:List (List (List UInt8))} (hb:ProgB v ls n') (hn:n≤n') (hm:m=true→m'=true) (hg:g=true→g'=true):Prog (ss++[.block v a ls]) m' g' n':=by
 refine ⟨?_,?_,?_,?_,?_⟩
 · rw [cntV_app,cntV_block]
   intro h1
   exact (h.mo1 h1).imp hm (fun h=>by omega)
 · rw [cntV_app,cntV_block]
   intro h1
   have:=h.mo2 h1;omega
 · rw [cntV_app,cntV_block]
   intro h1
   exact (h.go1 h1).imp hg (fun h=>by omega)
 · rw [cntV_app,cntV_block]
   intro h1
   have:=h.go2 h1;omega
 · intro h1
   rcases lg_app h1 with h1 | h1
   · have:=h.lg h1;omega
   · exact hb h1
theorem cntV_mem {v:List UInt8} {a:List (List UInt8)} {ss:List StT} (h:StT.line v a ∈ ss):1≤cntV v ss:=List.countP_pos_iff.2 ⟨_,h,by simp [isV]⟩
theorem prog_mod {c0 p:List UInt8} {s1 s2:List StT} {m g:Bool} {n:Nat} (hp:PP (.line moW [p]) s2 true) (h:Prog (.line moW [c0] :: (s1++s2)) m g n):0 < n:=by
 rcases hp.2 rfl with ⟨s,hs,hl⟩ | ht
 · exact h.lg ⟨s,List.mem_cons_of_mem _ (List.mem_append.2 (Or.inr hs)),hl⟩
 · refine h.mo2 ?_
   have e:StT.line moW [c0] :: (s1++s2)=[StT.line moW [c0]]++(s1++s2):=rfl
   rw [e,cntV_app,cntV_app,cntV_line,if_pos rfl]
   have:=cntV_mem ht;omega
theorem prog_go {c0 c1 p:List UInt8} {s2:List StT} {m g:Bool} {n:Nat} (hp:PP (.line goW [p]) s2 true) (h:Prog (.line moW [c0] :: ([.line goW [c1]]++s2)) m g n):0 < n:=by
 rcases hp.2 rfl with ⟨s,hs,hl⟩ | ht
 · exact h.lg ⟨s,List.mem_cons_of_mem _ (List.mem_append.2 (Or.inr hs)),hl⟩
 · refine h.go2 ?_
   have e:StT.line moW [c0] :: ([StT.line goW [c1]]++s2)=[StT.line moW [c0]]++([StT.line goW [c1]]++s2):=rfl
   rw [e,cntV_app,cntV_app,cntV_line,cntV_line,if_pos (rfl:goW=goW)]
   have:=cntV_mem ht;omega
structure LnO (N:Nat) (w:World) (L R cap:Nat) (cur:Array Value) (T:List UInt8) (t:Tk) (ts:List Tk):Prop where
 l6:w.cell? ⟨L,6,none⟩=some (.slice (some ⟨R,0,none⟩) (ts.length+1) cap)
 row:Blk w R 9 cur
 le:ts.length+1≤cap
 le2:cap≤maxLen
 vals:∀ (i:Nat) (u:Tk),(t :: ts)[i]?=some u→cur[i]?=some (.string (mkS (tkTxt T u)))
 coms:ComsAt N w L 136
 lb:∃ ls,∃ a1 a2 a3:Int,Blk w L 136 ls∧ls[3]?=some (.int .i64 a1)∧ls[4]?=some (.int .i64 a2)∧ls[5]?=some (.int .i64 a3)
theorem row_open {N:Nat} {w:World} {e:TypeId} {v:Value} {k:Nat} {xs:List Value} (h:w.ownsRow N e 1 v (k+1) xs):∃ R cap cur,v=.slice (some ⟨R,0,none⟩) (k+1) cap∧Blk w R e cur∧N≤R∧k+1≤cap∧cap≤maxLen∧∀ i x,xs[i]?=some x→i < k+1→cur[i]?=some x:=by
 rcases h.2 with ⟨_,h2⟩ | ⟨g,cap,cur,rfl,hg,hh,hc1,hc2,hc3,hc4⟩
 · omega
 · refine ⟨g,cap,cur,rfl,⟨hh⟩,hg,hc1,hc2,fun i x hx hi=>?_⟩
   have h1:=congrArg (fun l=>l[i]?) hc4
   simp only [List.getElem?_take] at h1
   rw [if_pos (by omega)] at h1
   rw [← hx,← h1]
   simp
theorem LnS.open {N:Nat} {w:World} {T:List UInt8} {L:Nat} {t:Tk} {ts:List Tk} (h:LnS N w T L t ts):∃ R cap cur,LnO N w L R cap cur T t ts:=by
 obtain ⟨cs,tv,bv,sv,c1,c2,a1,a2,a3,hb,h0,h1,h3,h4,h5,h6,hr,hc1,hc2⟩:=h
 obtain ⟨R,cap,cur,rfl,hR,hN,k1,k2,hc⟩:=row_open hr
 refine ⟨R,cap,cur,hb.cell 6 h6,hR,k1,k2,fun i u hu=>?_,⟨cs,bv,sv,c1,c2,hb,h0,h1,hc1,hc2⟩,⟨cs,a1,a2,a3,hb,h3,h4,h5⟩⟩
 refine hc i _ (by rw [tvals,List.getElem?_map,hu];rfl) ?_
 have:=(List.getElem?_eq_some_iff.1 hu).1
 simpa using this
theorem LnO.below {N:Nat} {w w':World} {L R cap:Nat} {cur:Array Value} {T:List UInt8} {t:Tk} {ts:List Tk} (h:LnO N w L R cap cur T t ts) (k:Below w.heap.size w w'):LnO N w' L R cap cur T t ts:=by
 obtain ⟨ls,a1,a2,a3,lb,l3,l4,l5⟩:=h.lb
 exact ⟨(k.cell (World.block_lt_of_cell? w _ h.l6)).trans h.l6,blk_below h.row k (Nat.le_refl _),h.le,h.le2,h.vals,h.coms.below k,⟨ls,a1,a2,a3,blk_below lb k (Nat.le_refl _),l3,l4,l5⟩⟩
structure BlO (N:Nat) (w:World) (X:Nat) (Ls:List Nat) (R cap:Nat) (cur:Array Value) (lv:Value) (T:List UInt8) (t:Tk) (ts:List Tk) (ls:List (Tk × List Tk)):Prop where
 l12:w.cell? ⟨X,12,none⟩=some (.slice (some ⟨R,0,none⟩) (ts.length+1) cap)
 l13:w.cell? ⟨X,13,none⟩=some lv
 row:Blk w R 9 cur
 le:ts.length+1≤cap
 le2:cap≤maxLen
 vals:∀ (i:Nat) (u:Tk),(t :: ts)[i]?=some u→cur[i]?=some (.string (mkS (tkTxt T u)))
 coms:ComsAt N w X 143
 lrow:w.ownsRow N 92 1 lv Ls.length (Ls.map pv)
 lns:LnsS N w T Ls ls
theorem BkS.open {N:Nat} {w:World} {T:List UInt8} {X:Nat} {Ls:List Nat} {t:Tk} {ts:List Tk} {ls:List (Tk × List Tk)} (h:BkS N w T X Ls t ts ls):∃ R cap cur lv,BlO N w X Ls R cap cur lv T t ts ls:=by
 obtain ⟨cs,tv,lv,bv,sv,c1,c2,a1,a2,a3,hb,h0,h1,h3,h4,h5,h12,h13,hr,hr2,hc1,hc2,hls⟩:=h
 obtain ⟨R,cap,cur,rfl,hR,hN,k1,k2,hc⟩:=row_open hr
 refine ⟨R,cap,cur,lv,hb.cell 12 h12,hb.cell 13 h13,hR,k1,k2,fun i u hu=>?_,⟨cs,bv,sv,c1,c2,hb,h0,h1,hc1,hc2⟩,hr2,hls⟩
 refine hc i _ (by rw [tvals,List.getElem?_map,hu];rfl) ?_
 have:=(List.getElem?_eq_some_iff.1 hu).1
 simpa using this
theorem BlO.below {N:Nat} {w w':World} {X:Nat} {Ls:List Nat} {R cap:Nat} {cur:Array Value} {lv:Value} {T:List UInt8} {t:Tk} {ts:List Tk} {ls:List (Tk × List Tk)} (h:BlO N w X Ls R cap cur lv T t ts ls) (k:Below w.heap.size w w'):BlO N w' X Ls R cap cur lv T t ts ls :=
 ⟨(k.cell (World.block_lt_of_cell? w _ h.l12)).trans h.l12,(k.cell (World.block_lt_of_cell? w _ h.l13)).trans h.l13,blk_below h.row k (Nat.le_refl _),h.le,h.le2,h.vals,h.coms.below k,row_below h.lrow k (Nat.le_refl _),
   h.lns.1,fun j L l e1 e2=>(h.lns.2 j L l e1 e2).below k (Nat.le_refl _)⟩
theorem row_at {N:Nat} {w:World} {e:TypeId} {la:Option Addr} {n lc:Nat} {xs:List Value} (h:w.ownsRow N e 1 (.slice la n lc) n xs) {i:Nat} {x:Value} (hx:xs[i]?=some x) (hi:i < n):∃ b,la=some ⟨b,0,none⟩∧w.cell? ⟨b,i,none⟩=some x:=by
 rcases h.2 with ⟨_,h2⟩ | ⟨g,cap,cur,e1,hg,hh,hc1,hc2,hc3,hc4⟩
 · omega
 · injection e1 with e1 _ e3
   subst e1 e3
   refine ⟨g,rfl,?_⟩
   rw [h.cellAt i (by omega),hx]
end
section
open Go.RowKit Go.Proofs
def panM (B:Nat) (r:Bool):FrameMode:=.panicking [{ v:=.iface 123 (.pointer (some ⟨B,17,none⟩)),recovered:=r }]
theorem Tryz.und_any:Tryz.prog.underlying 20=some (.interface #[]):=by kernel_rfl
theorem Tryz.und_pel:Tryz.prog.underlying 123=some (.pointer 121):=by kernel_rfl
theorem Tryz.cmp_pel:(Tryz.prog.info? 123).map (fun i=>i.comparable)=some true:=by kernel_rfl
theorem Tryz.inf_el:(Tryz.prog.info? 121).map (fun i=>i.size)=some 1:=by kernel_rfl
theorem neq_pel (a:Addr) (w:World):(binOp .neq 20 (.iface 123 (.pointer (some a))) (.iface 123 (.pointer (some a)))).run Tryz.prog w=.ok (.bool false) w:=by
 obtain ⟨i,hi,hcmp⟩:=Option.map_eq_some_iff.1 Tryz.cmp_pel
 obtain ⟨j,hj,hjs⟩:=Option.map_eq_some_iff.1 Tryz.inf_el
 simp only [binOp]
 simp [Op.equal,Op.maxDepth,run_equalIn_iface_ptr_same w 9998 a Tryz.und_any Tryz.und_pel hi hcmp hj]
attribute [local go_sem] neq_pel
set_option maxHeartbeats 2000000 in
theorem parse_doorP (I E B g n cap:Nat) (w:World) (hI:w.cell? ⟨I,0,none⟩=some (.pointer (some ⟨B,0,none⟩))) (hE:w.cell? ⟨E,0,none⟩=some .nilIface) (hB:w.cell? ⟨B,17,none⟩=some (.slice (some ⟨g,0,none⟩) (n+1) cap)) (hf:w.frozen? ⟨E,0,none⟩=false) :
   CallsD Tryz.prog 58 #[.pointer (some ⟨I,0,none⟩),.pointer (some ⟨E,0,none⟩)] (panM B false) w fun e u' w'=>e=.returned (.tuple #[])∧u'=panM B true∧w'=w.setCell ⟨E,0,none⟩ (.iface 121 (.slice (some ⟨g,0,none⟩) (n+1) cap)):=by
 unfold panM
 have h1:(0:Int) < (n:Int)+1:=by omega
 refine callsD_of_wpS Tryz.func58 rfl fun c₀ cs hu=>?_
 simp only [Tryz.ntmps58,List.size_toArray,List.length_cons,List.length_nil,Nat.reduceAdd,Nat.reduceSub,Array.replicate_succ,Array.replicate_zero,List.push_toArray,List.append_toArray,List.nil_append,List.cons_append]
 apply wpS_seq
 apply wpS_seq
 apply wpS_region
 simp [wpOpsS,go_sem,recoverD,hu,Exit.thenS]
 refine wpS_of_wp ?_
 go_wp2
 show Code.wpS _ _ _ _ _ _
 refine wpS_of_wp ?_
 go_wp2
 simp [bodyPostS,results,Tryz.results58]
def FileN (N:Nat) (w:World) (F:Nat) (nm:ByteArray) (xs:List Value):Prop:=∃ v cs,Blk w F 129 cs∧cs[0]?=some (.string nm)∧cs[4]?=some v∧w.ownsRow N 131 1 v xs.length xs
def ParseOk (w:World) (T:List UInt8) (nm:ByteArray) (ss:List Stm) (e:Ending) (w':World):Prop :=
 ∃ F ns,e=.returned (.tuple #[.pointer (some ⟨F,0,none⟩),.nilIface])∧FileN w.heap.size w' F nm (ns.map Nd.val)∧TreeS w.heap.size w' T ns ss∧ns.length≤900002
def ParseR (w:World) (T:List UInt8) (nm:ByteArray) (ss:List Stm) (b:Bool) (e:Ending) (w':World):Prop :=
 Below w.heap.size w w'∧((b=true∧ParseOk w T nm ss e w')∨(b=false∧∃ v,e=.returned (.tuple #[.pointer none,.iface 121 v])))
set_option maxHeartbeats 4000000 in
theorem parse_g (w:World) (D C:Nat) (T:List UInt8) (nm:ByteArray) (f:Nat→Int) (c:Tk) (cs:List Tk) (ss:List Stm) (b:Bool) (h:TxtAt w D C T) (h0:TokG f T 0 c) (hch:ChainG f T c cs) (hfp:FileP (c :: cs) ss b) (hss:ss≠[]∨b=false)
   (hlen:cs.length≤800000) (hT:T.length≤800000) (hpr:PrTab w) (hsp:OpTab w 2 f) (hP:0 < w.heap.size) (hS:2 < w.heap.size) :
   Calls Tryz.prog 49 #[.string nm,.slice (some ⟨D,0,none⟩) T.length C] w (ParseR w T nm ss b):=by
 have hmf:∀ (fn:Fn) (first cap:Array Value) (w:World),(Instr.makeFunc fn first cap).run Tryz.prog w=.ok (.func fn first cap) w:=fun _ _ _ _=>rfl
 have H:=hide h
 have HP:=hide (And.intro hpr hsp)
 have HC:=hide hch
 have H0:=hide h0
 have HF:=hide hfp
 have HSS:=hide hss
 clear h hpr hsp hch h0 hfp hss
 go_enter_defers Tryz.func49,Tryz.ntmps49
 go_wp2_with fail
 refine (newInput_any D C T nm _).mono ?_
 rintro e w1 ⟨rfl,rfl⟩
 go_wp2_with fail
 have bE:=((Blk.new w 66 #[Value.nilIface]).alloc (Obj.cells (Lx0 (w.heap.size+1) D C T nm).cells 155)).alloc (Obj.cells #[Value.pointer (some ⟨w.heap.size+1,0,none⟩)] 149)
 have bB:=(Blk.new (w.alloc (Obj.cells #[Value.nilIface] 66)) 155 (Lx0 (w.heap.size+1) D C T nm).cells).alloc (Obj.cells #[Value.pointer (some ⟨w.heap.size+1,0,none⟩)] 149)
 have bI:=Blk.new ((w.alloc (Obj.cells #[Value.nilIface] 66)).alloc (Obj.cells (Lx0 (w.heap.size+1) D C T nm).cells 155)) 149 #[Value.pointer (some ⟨w.heap.size+1,0,none⟩)]
 have hbW:Below w.heap.size w (((w.alloc (Obj.cells #[Value.nilIface] 66)).alloc (Obj.cells (Lx0 (w.heap.size+1) D C T nm).cells 155)).alloc (Obj.cells #[Value.pointer (some ⟨w.heap.size+1,0,none⟩)] 149)) :=
   (((Below.refl _ w).alloc (Nat.le_refl _) _).alloc (by simp) _).alloc (by simp;omega) _
 rw [show (w.alloc (Obj.cells #[Value.nilIface] 66)).heap.size=w.heap.size+1 from by simp] at bB
 rw [show ((w.alloc (Obj.cells #[Value.nilIface] 66)).alloc (Obj.cells (Lx0 (w.heap.size+1) D C T nm).cells 155)).heap.size=w.heap.size+1+1 from by simp] at bI
 generalize (((w.alloc (Obj.cells #[Value.nilIface] 66)).alloc (Obj.cells (Lx0 (w.heap.size+1) D C T nm).cells 155)).alloc (Obj.cells #[Value.pointer (some ⟨w.heap.size+1,0,none⟩)] 149))=W at bE bB bI hbW ⊢
 have hlx:=H.out.lx hbW _ nm bB
 have hTabs:Tabs w.heap.size W (Lx0 (w.heap.size+1) D C T nm) f:=⟨HP.out.1.below hbW hP,HP.out.2.below hbW hS,hP,hS,Nat.le_succ _,by show T.length≤1000000;omega⟩
 refine (readToken_g w.heap.size (Lx0 (w.heap.size+1) D C T nm) W c (fun _=>False) f [] hlx ⟨_,_,_,rfl⟩ (CmAt.nil _ _) (Nat.zero_le _) (by simp) (fun g _ h=>h) H0.out (fun k h=>h.elim) hTabs).mono ?_
 rintro e w2 ⟨rfl,hps2,hk2⟩
 have bE2:=bE.keptU hk2 (by simp [LexP])
 have bI2:=bI.keptU hk2 (by simp [LexP])
 have eI2:w2.cell? ⟨w.heap.size+1+1,0,none⟩=some (.pointer (some ⟨w.heap.size+1,0,none⟩)):=bI2.cell 0 rfl
 have HPS2:=hide hps2
 have HT2:=hide (hTabs.below hk2.below)
 have HB2:=hide (hbW.trans hk2.below)
 have BE2:=hide bE2
 have BI2:=hide bI2
 clear bE bB bI hbW hlx hTabs hps2 hk2 bE2 bI2
 go_wp2_with fail
 refine (parseFile_g w.heap.size (Lx0 (w.heap.size+1) D C T nm) w2 (fun _=>False) f c cs ss b nm 0 HPS2.out (fun k h=>h.elim) HT2.out H0.out HF.out HC.out (by omega) rfl rfl).mono ?_
 rintro e w3 (⟨hbt,hok⟩ | ⟨hbf,hpan⟩)
 · subst hbt
   obtain ⟨F,Q,tn,ns,rfl,hFs,hps3,_,_,hfa,htr,hnd,hids,hku3,hnl⟩:=hok
   obtain ⟨com,cms,⟨q,tsv,hsl,hx⟩,hcm,hcl,hsf,_⟩:=hps3
   have hxb:=hx.blk
   have hpT:tn.e≤T.length:=hx.hp
   obtain ⟨cells,hcells⟩:∃ cs,cs=(({ ({ Lx0 (w.heap.size+1) D C T nm with file:=.pointer (some ⟨F,0,none⟩) }:Lx) with com:=com }:Lx).lexed q tsv tn.k tn.s tn.e (mkS (tkTxt T tn))).cells:=⟨_,rfl⟩
   have q0:cells[0]?=some (.string nm):=by rw [hcells];rfl
   have q15:cells[15]?=some com:=by rw [hcells];rfl
   have q16:cells[16]?=some (.pointer (some ⟨F,0,none⟩)):=by rw [hcells];rfl
   have q17:cells[17]?=some (.slice none 0 0):=by rw [hcells];rfl
   have qs:(cells.setIfInBounds 18 nilS).setIfInBounds 19 nilS=cells∧cells.size=20:=by rw [hcells];exact ⟨rfl,rfl⟩
   replace hxb:Blk w3 (w.heap.size+1) 155 cells:=by rw [hcells];exact hxb
   clear hcells hx
   have e17:w3.cell? ⟨w.heap.size+1,17,none⟩=some (.slice none 0 0):=hxb.cell 17 q17
   have e16:w3.cell? ⟨w.heap.size+1,16,none⟩=some (.pointer (some ⟨F,0,none⟩)):=hxb.cell 16 q16
   have e0:w3.cell? ⟨w.heap.size+1,0,none⟩=some (.string nm):=hxb.cell 0 q0
   have bI3:=BI2.out.keptU hku3 (by simp [StmtP,LexP])
   have bE3:=BE2.out.keptU hku3 (by simp [StmtP,LexP])
   have eI3:w3.cell? ⟨w.heap.size+1+1,0,none⟩=some (.pointer (some ⟨w.heap.size+1,0,none⟩)):=bI3.cell 0 rfl
   obtain ⟨fv,hfb,hfo⟩:=hfa
   have hsz2:w.heap.size+1+1 < w2.heap.size:=BI2.out.lt
   have hF1:F≠w.heap.size+1:=by omega
   have hF2:F≠w.heap.size+1+1:=by omega
   have hF0:F≠w.heap.size:=by omega
   have ff:∀ j,w3.frozen? ⟨F,j,none⟩=false:=fun j=>hfb.free j
   have fc0:w3.cell? ⟨F,0,none⟩=some (.string ⟨#[]⟩):=hfb.cell 0 rfl
   have hFlt:=hfb.lt
   have hw4:Hid (Blk (w3.setCell ⟨F,0,none⟩ (.string nm)).drew (w.heap.size+1) 155 cells∧FileAt w.heap.size (w3.setCell ⟨F,0,none⟩ (.string nm)).drew F nm (ns.map Nd.val)∧TreeAt w.heap.size (w3.setCell ⟨F,0,none⟩ (.string nm)).drew T Q ns ss ∧
       CmAt w.heap.size (w3.setCell ⟨F,0,none⟩ (.string nm)).drew com cms∧Below w.heap.size w (w3.setCell ⟨F,0,none⟩ (.string nm)).drew ∧
       Blk (w3.setCell ⟨F,0,none⟩ (.string nm)).drew (w.heap.size+1+1) 149 #[Value.pointer (some ⟨w.heap.size+1,0,none⟩)]∧Blk (w3.setCell ⟨F,0,none⟩ (.string nm)).drew w.heap.size 66 #[Value.nilIface]):=by
     have kk:Ku w.heap.size (fun i u=>u=129) w3 (w3.setCell ⟨F,0,none⟩ (.string nm)).drew:=by
       refine Ku.drew ?_
       exact Ku.set_blk (Ku.refl _ _ _) (by omega) hfb rfl
     exact hide ⟨hxb.keptU kk (by decide),⟨fv,(hfb.set 0 _).drew,ownsRow_keptU hfo kk (fun _ _=>by decide)⟩,htr.keptU kk ⟨fun _ _=>by decide,fun _ _=>by decide,fun _ _=>by decide,fun _=>by decide,fun _=>by decide,fun _ _=>by decide⟩ (fun _ h=>h),
       hcm.keptU kk (fun _ _=>by decide),(HB2.out.trans hku3.below).trans kk.below,bI3.keptU kk (by decide),bE3.keptU kk (by decide)⟩
   have HTR:=hide (And.intro htr (And.intro hids hku3.size))
   have HCL:=hide (And.intro hcl (And.intro hsf hnl))
   clear hxb hfo hfb bI3 bE3 hku3 htr hids hcl hsf hcm hnd hnl hsl
   go_wp2_with fail
   go_region_held3 (fun w'=>w'.cell? ⟨w.heap.size+1+1,0,none⟩=some (.pointer (some ⟨w.heap.size+1,0,none⟩))∧w'.cell? ⟨w.heap.size+1,16,none⟩=some (.pointer (some ⟨F,0,none⟩))∧w'.cell? ⟨w.heap.size+1,0,none⟩=some (.string nm)) (go_keep) (fail)
   all_goals (generalize (w3.setCell ⟨F,0,none⟩ (.string nm)).drew=W4 at hw4 ⊢)
   obtain ⟨b4,hF4,hT4,hC4,hb4,bI4,bE4⟩:=hw4.out
   clear hw4
   have eI4:W4.cell? ⟨w.heap.size+1+1,0,none⟩=some (.pointer (some ⟨w.heap.size+1,0,none⟩)):=bI4.cell 0 rfl
   have HF4:=hide hF4
   have HT4:=hide hT4
   have HC4:=hide hC4
   have HB4:=hide hb4
   have BI4:=hide bI4
   have BE4:=hide bE4
   have B4:=hide b4
   clear b4 hF4 hT4 hC4 hb4 bI4 bE4 e17 e16 e0 eI3 ff fc0 eI2 HB2
   go_wp2_with fail
   have hids:=HT4.out.idsLen
   have hsum:=HF.out.lines
   simp only [List.length_cons] at hsum
   have hne:ss≠[]:=HSS.out.resolve_right (by simp)
   have hnf:=HT4.out.f
   have hl0:=hids.2 hne
   have hnl:=HCL.out.2.2
   have hpos:∀ e ∈ postAll ns++[.file F],ExI w.heap.size ns W4 e∧ExB W4 e∧W4.cell? e.slot=some nilS∧w.heap.size≤e.addr.block:=by
     intro e he
     rcases List.mem_append.1 he with he | he
     · obtain ⟨nd,hn,he⟩:=List.mem_flatMap.1 he
       obtain ⟨h1,h2,h3,h4⟩:=(hnf nd hn).es e he
       refine ⟨h1 ns,h2,h3,?_⟩
       have:=HTR.out.2.1 e.addr.block (List.mem_flatMap.2 ⟨nd,hn,h4⟩)
       omega
     · obtain rfl:=List.mem_singleton.1 he
       obtain ⟨v,hb,hr⟩:=HF4.out
       exact ⟨⟨HF4.out.s,fun nd hn=>(hnf nd hn).i,hl0,by omega⟩,⟨_,hb⟩,hb.cell 2 rfl,by show w.heap.size≤F;omega⟩
   have hcml:cms.length≤900000:=by have:=HCL.out.1;omega
   refine (assign_any w.heap.size W4 (w.heap.size+1) F nm cells com cms ns
     ⟨qs.2,B4.out.lt,B4.out.eq qs.1.symm,⟨rfl,Or.inl ⟨rfl,rfl⟩⟩,⟨rfl,Or.inl ⟨rfl,rfl⟩⟩,fun g h=>by simp [nilS,Value.ownBlock] at h⟩ q16 q15 HC4.out HCL.out.2.1 hcml HF4.out (fun nd hn=>(hnf nd hn).o) hl0 (by omega) (by omega) hpos (pre_post ns) HB4.out.size (Nat.le_succ _)).mono ?_
   rintro e w5 ⟨rfl,hsq,⟨p5,q5,bB5⟩,hslots⟩
   have bI5:=hsq.blk' BI4.out (by decide) (by simp [SlotZ])
   have bE5:=hsq.blk' BE4.out (by decide) (by simp [SlotZ])
   have eI5:w5.cell? ⟨w.heap.size+1+1,0,none⟩=some (.pointer (some ⟨w.heap.size+1,0,none⟩)):=bI5.cell 0 rfl
   have e165:w5.cell? ⟨w.heap.size+1,16,none⟩=some (.pointer (some ⟨F,0,none⟩)):=bB5.cell 16 (by rw [Array.getElem?_setIfInBounds_ne (by decide),Array.getElem?_setIfInBounds_ne (by decide)];exact q16)
   have e175:w5.cell? ⟨w.heap.size+1,17,none⟩=some (.slice none 0 0):=bB5.cell 17 (by rw [Array.getElem?_setIfInBounds_ne (by decide),Array.getElem?_setIfInBounds_ne (by decide)];exact q17)
   have eE5:w5.cell? ⟨w.heap.size,0,none⟩=some .nilIface:=bE5.cell 0 rfl
   have fE5:∀ j,w5.frozen? ⟨w.heap.size,j,none⟩=false:=fun j=>bE5.free j
   have sE5:w5.setCell ⟨w.heap.size,0,none⟩ .nilIface=w5:=bE5.set_id rfl
   have HOK:Hid (Below w.heap.size w w5∧FileN w.heap.size w5 F nm (ns.map Nd.val)∧TreeS w.heap.size w5 T ns ss):=by
     obtain ⟨v,hb,hr⟩:=HF4.out
     obtain ⟨fcs,hfb5,_,hj⟩:=hsq.blk hb (by decide)
     exact hide ⟨HB4.out.trans hsq.below,⟨v,fcs,hfb5,(hj 0 (by simp [SlotZ])).trans rfl,(hj 4 (by simp [SlotZ])).trans rfl,hsq.row hr (by decide) (by simp [SlotZ])⟩,HT4.out.s hsq hslots⟩
   have HNL:=hide hnl
   clear hsq bB5 hslots bI5 bE5 eI4 hids hsum hnf hpos hcml hnl
   go_wp2_with fail
   refine leaves_cons (f:=58) (args:=#[.pointer (some ⟨w.heap.size+1+1,0,none⟩),.pointer (some ⟨w.heap.size,0,none⟩)]) (by simp) (by simp [go_sem]) ?_
   refine (parse_door (w.heap.size+1+1) w.heap.size (w.heap.size+1) w5 eI5 eE5 e175).mono ?_
   rintro e u' w6 ⟨rfl,rfl,rfl⟩
   simp [Leaves,settle,results,Tryz.results49,go_sem,eE5]
   exact ⟨HOK.out.1,Or.inl ⟨rfl,F,ns,rfl,HOK.out.2.1,HOK.out.2.2,HNL.out⟩⟩
 · subst hbf
   obtain ⟨rfl,hk3,pcs,pg,pcap,hpB,hp17⟩:=hpan
   unfold panicE
   have bI3:=BI2.out.keptU hk3 (by simp [StmtP,LexP])
   have bE3:=BE2.out.keptU hk3 (by simp [StmtP,LexP])
   have eI3:w3.cell? ⟨w.heap.size+1+1,0,none⟩=some (.pointer (some ⟨w.heap.size+1,0,none⟩)):=bI3.cell 0 rfl
   have eE3:w3.cell? ⟨w.heap.size,0,none⟩=some .nilIface:=bE3.cell 0 rfl
   have e17:w3.cell? ⟨w.heap.size+1,17,none⟩=some (.slice (some ⟨pg,0,none⟩) (0+1) pcap):=hpB.cell 17 hp17
   have fE3:w3.frozen? ⟨w.heap.size,0,none⟩=false:=bE3.free 0
   have hb3:=HB2.out.trans hk3.below
   have HB3:=hide hb3
   have BE3:=hide bE3
   clear hk3 hpB hp17 bI3 bE3 hb3
   go_wp2_with fail
   refine leaves_cons (f:=58) (args:=#[.pointer (some ⟨w.heap.size+1+1,0,none⟩),.pointer (some ⟨w.heap.size,0,none⟩)]) (by simp) (by simp [go_sem]) ?_
   refine (parse_doorP (w.heap.size+1+1) w.heap.size (w.heap.size+1) pg 0 pcap w3 eI3 eE3 e17 fE3).mono ?_
   rintro e u' w6 ⟨rfl,rfl,rfl⟩
   have eE6:(w3.setCell ⟨w.heap.size,0,none⟩ (.iface 121 (.slice (some ⟨pg,0,none⟩) (0+1) pcap))).cell? ⟨w.heap.size,0,none⟩=some (.iface 121 (.slice (some ⟨pg,0,none⟩) (0+1) pcap)):=(BE3.out.set 0 _).cell 0 rfl
   simp [Leaves,settle,panM,results,Tryz.results49,go_sem,eE6]
   exact ⟨HB3.out.setCell (Nat.le_refl _) _,Or.inr ⟨rfl,_,rfl⟩⟩
end
section
open Go.RowKit Go.Proofs
def AscL (l:List UInt8):Prop:=∀ x ∈ l,x.toNat < 128
theorem AscL.app {a b:List UInt8} (h:AscL a) (k:AscL b):AscL (a++b):=fun x hx=>(List.mem_append.1 hx).elim (h x) (k x)
theorem AscL.cons {a:UInt8} {b:List UInt8} (h:a.toNat < 128) (k:AscL b):AscL (a :: b):=fun x hx=>by
 rcases List.mem_cons.1 hx with rfl | hx
 · exact h
 · exact k x hx
theorem AscL.nil:AscL []:=fun x hx=>by cases hx
theorem asc_ch {l:List UInt8} (h:∀ i,i < l.length→ch l i < 128):AscL l:=by
 intro x hx
 obtain ⟨i,hi,rfl⟩:=List.getElem_of_mem hx
 have:=h i hi
 simpa [ch,List.getD_eq_getElem?_getD,List.getElem?_eq_getElem hi] using this
theorem wd_asc {u:List UInt8} (h:WdG u):AscL u:=by
 rcases h with h | h
 · refine asc_ch fun i hi=>?_
   have:=(h.chars i hi).1
   simp only [idB,decide_eq_true_eq] at this
   omega
 · refine asc_ch fun i hi=>?_
   obtain rfl:i=0:=by have:=h.1;omega
   rcases h.2 with h | h | h | h | h <;> rw [h] <;> decide
theorem bl_asc {g:List UInt8} (h:Bl g):AscL g:=asc_ch fun i hi=>by
 rcases h i hi with h | h <;> rw [h] <;> decide
theorem ws_asc {l:List Wt} {B:List UInt8} (h:WsOk l B):AscL (wsTxt l):=by
 induction l with
 | nil=>exact AscL.nil
 | cons x l ih =>
   obtain ⟨h1,h2,_,h4⟩:=h
   simp only [wsTxt,List.flatMap_cons]
   exact ((bl_asc h2).app (wd_asc h1)).app (ih h4)
def ComA (d:Dl):Prop:=∀ g t,d.com=some (g,t)→AscL t
theorem dl_asc {d:Dl} (h:d.ok) (hc:ComA d):AscL d.txt:=by
 refine (ws_asc h.ws).app ?_
 rcases hd:d.com with _ | ⟨g,t⟩
 · exact AscL.cons (by decide) AscL.nil
 · exact (bl_asc (h.com g t hd).bl).app ((hc g t hd).app (AscL.cons (by decide) AscL.nil))
theorem doc_asc {ds:List Dl} (h:∀ d ∈ ds,d.ok∧ComA d):AscL (docG ds):=by
 intro x hx
 obtain ⟨d,hd,hx⟩:=List.mem_flatMap.1 hx
 exact dl_asc (h d hd).1 (h d hd).2 x hx
structure ItmA (i:Itm):Prop where
 why:AscL i.why
 com:∀ g t,i.com=some (g,t)→AscL t
theorem com_none {l:List Wt}:ComA ⟨l,none⟩:=fun g t e=>by cases e
theorem why_asc {g w:List UInt8} (h:AscL w):∀ d ∈ whyD g w,ComA d:=by
 intro d hd
 unfold whyD at hd
 split at hd
 · cases hd
 · obtain rfl:=List.mem_singleton.1 hd
   intro g' t e
   cases e
   exact AscL.cons (by decide) (AscL.cons (by decide) (AscL.cons (by decide) h))
theorem ItmA.N {v:List UInt8} {i:Itm} (h:ItmA i):∀ d ∈ itmN v i,ComA d:=by
 intro d hd
 simp only [itmN,List.mem_append,List.mem_cons,List.not_mem_nil,or_false] at hd
 rcases hd with hd | rfl | rfl
 · exact why_asc h.why d hd
 · exact h.com
 · exact com_none
theorem ItmA.B {i:Itm} (h:ItmA i):∀ d ∈ itmB i,ComA d:=by
 intro d hd
 simp only [itmB,List.mem_append,List.mem_cons,List.not_mem_nil,or_false] at hd
 rcases hd with hd | rfl
 · exact why_asc h.why d hd
 · exact h.com
theorem secD_asc {blk:Bool} {v:List UInt8} {is:List Itm} (h:∀ i ∈ is,ItmA i):∀ d ∈ secD blk v is,ComA d:=by
 intro d hd
 unfold secD at hd
 split at hd
 · rcases is with _ | ⟨i,is⟩
   · cases hd
   · simp only [secB,List.mem_cons,List.mem_append,List.not_mem_nil,or_false,bodyD] at hd
     rcases hd with rfl | hd | rfl | rfl
     · exact com_none
     · obtain ⟨j,hj,hd⟩:=List.mem_flatMap.1 hd
       exact (h j hj).B d hd
     · exact com_none
     · exact com_none
 · obtain ⟨j,hj,hd⟩:=List.mem_flatMap.1 hd
   exact (h j hj).N d hd
theorem optL_asc {v p:List UInt8}:∀ d ∈ optL v p,ComA d:=by
 intro d hd
 unfold optL at hd
 split at hd
 · cases hd
 · simp only [List.mem_cons,List.not_mem_nil,or_false] at hd
   rcases hd with rfl | rfl <;> exact com_none
theorem map_asc {α:Type} {f:α→Itm} {l:List α} (h:∀ x ∈ l,ItmA (f x)):∀ i ∈ l.map f,ItmA i:=fun i hi=>by
 obtain ⟨x,hx,rfl⟩:=List.mem_map.1 hi
 exact h x hx
theorem docOf_asc (c:Cont) (blk:Bool) (hc:ContF c) {tv tp:List UInt8} (ht:WdG tv) (hp:NiceL tp):AscL (docG (docOf c blk tv tp)):=by
 refine doc_asc fun d hd=>⟨doc_ok c blk hc ht hp d hd,?_⟩
 simp only [docOf,bodyOf,List.mem_cons,List.mem_append,List.not_mem_nil,or_false] at hd
 rcases hd with rfl | rfl | hd | hd | (hd | hd | hd | hd | hd | hd) | rfl
 · exact com_none
 · exact com_none
 · exact optL_asc d hd
 · exact optL_asc d hd
 · refine secD_asc (map_asc (fun r hr=>⟨AscL.nil,fun g t e=>?_⟩)) d hd
   unfold reqI at e
   dsimp only at e
   split at e
   · cases e
     intro x hx
     revert x
     decide
   · cases e
 · exact secD_asc (map_asc (fun r hr=>⟨AscL.nil,fun g t e=>by cases e⟩)) d hd
 · exact secD_asc (map_asc (fun r hr=>⟨AscL.nil,fun g t e=>by cases e⟩)) d hd
 · refine secD_asc (map_asc (fun r hr=>?_)) d hd
   have hw:=asc_ch (fun i hi=>((hc.rets r hr).2.2.chars i hi).2.2)
   unfold retI
   split
   · exact ⟨hw,fun g t e=>by cases e⟩
   · exact ⟨hw,fun g t e=>by cases e⟩
 · exact secD_asc (map_asc (fun r hr=>⟨AscL.nil,fun g t e=>by cases e⟩)) d hd
 · exact secD_asc (map_asc (fun r hr=>⟨AscL.nil,fun g t e=>by cases e⟩)) d hd
 · exact com_none
end
end Go.Proofs.YtifkpibjeamfkaaGreatFmt
