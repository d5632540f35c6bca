/-
  (*input).parseLineBlock.
-/
import Derived.Test.YtifkpibjeamfkaaGreatFmtZ18
set_option linter.unusedVariables false
set_option linter.unusedSimpArgs false
set_option maxRecDepth 100000
namespace Go.Proofs.YtifkpibjeamfkaaGreatFmt
section
open Go.RowKit Go.Proofs
theorem owns_any {w:World} {N:Nat} {e:TypeId} {size n:Nat} {v:Value} {xs:List Value} (h:w.ownsRow N e size v n xs):∃ a cap,v=.slice a n cap:=by
 rcases h.2 with ⟨rfl,h2⟩ | ⟨g,cap,cur,e,_⟩
 · exact ⟨none,0,by rw [h2]⟩
 · exact ⟨_,cap,e⟩
theorem PsAt.inp {N:Nat} {w:World} {σ:Lx} {t:Tk} {P:Nat→Prop} (h:PsAt N w σ t P):∃ cs,Blk w σ.B 155 cs∧cs[17]?=some σ.perr∧cs[0]?=some σ.fn∧∃ b1 b2 b3:Int,cs[12]?=some (.int .i64 b1)∧cs[13]?=some (.int .i64 b2)∧cs[14]?=some (.int .i64 b3):=by
 obtain ⟨com,cs,⟨q,ts,_,hx⟩,_⟩:=h
 exact ⟨_,hx.blk,rfl,rfl,_,_,_,rfl,rfl,rfl⟩
theorem Ku.of_kpB {N B:Nat} {P:Nat→Prop} {w w':World} {cs:Array Value} (hb:Blk w B 155 cs) (hN:N≤B) (k:Kp (fun k=>k=B) w w'):Ku N (LexP P) w w':=by
 refine Ku.of_kp k (Nat.le_trans hN (Nat.le_of_lt hb.lt)) (fun i e=>by subst e;exact hN) (fun i ds u fz e hu=>?_)
 subst e
 have h1:=hb.out
 rw [hu] at h1
 injection h1 with h1
 injection h1 with _ h1
 exact Or.inl h1
def PlbOk (N:Nat) (σ:Lx) (w:World) (P:Nat→Prop) (a1 a2 a3 p1 p2 p3:Int) (tv:Value) (ls:List (Tk × List Tk)) (r:Option (List Tk)) (en:Ending) (w':World):Prop :=
 ∃ X lv rb cms q1 q2 q3 Ls Q t rest,r=some (t :: rest)∧en=.returned (.pointer (some ⟨X,0,none⟩))∧w.heap.size≤X∧PsAt N w' σ t Q∧(∀ k,P k→Q k)∧(∀ k,Q k→k < w'.heap.size) ∧
   Blk w' X 143 (lbCells a1 a2 a3 p1 p2 p3 tv lv rb q1 q2 q3)∧w'.ownsRow w.heap.size 92 1 lv Ls.length (Ls.map pv)∧LnsAt N w' σ.T Q Ls ls∧CmAt N w' rb cms∧(∀ g,rb.ownBlock=some g→Q g) ∧
   Ls.Pairwise (· < ·)∧(∀ L ∈ Ls,w.heap.size≤L)∧Ku N (LexP P) w w'
def Panics (N:Nat) (σ:Lx) (w:World) (S:Nat→TypeId→Prop) (en:Ending) (w':World):Prop :=
 en=panicE σ.B∧Ku N S w w'∧∃ cs g cap,Blk w' σ.B 155 cs∧cs[17]?=some (.slice (some ⟨g,0,none⟩) 1 cap)
theorem plb_ok {N:Nat} {σ:Lx} {w W w7:World} {P Q:Nat→Prop} {X:Nat} {a1 a2 a3 p1 p2 p3 q1 q2 q3:Int} {tv lv rb:Value} {e t:Tk} {cs':List Tk} {Ls:List Nat} {dn ls:List (Tk × List Tk)} (hX:w.heap.size≤X) (sub:∀ k,P k→Q k)
   (h:PsAt N W σ e Q∧(∀ k,Q k→k < W.heap.size)∧Blk W X 143 (lbCells a1 a2 a3 p1 p2 p3 tv lv rb q1 q2 q3)∧W.ownsRow w.heap.size 92 1 lv Ls.length (Ls.map pv)∧LnsAt N W σ.T Q Ls dn∧(∃ cmr,CmAt N W rb cmr)∧(∀ g,rb.ownBlock=some g→Q g)∧Ku N (LexP P) w W)
   (hinc:Ls.Pairwise (· < ·)) (hold:∀ L ∈ Ls,w.heap.size≤L) (hls:ls=dn++[]) (h7:PsAt N w7 σ t Q) (k7:Ku N (LexP Q) W w7) :
   PlbOk N σ w P a1 a2 a3 p1 p2 p3 tv ls (some (t :: cs')) (.returned (.pointer (some ⟨X,0,none⟩))) w7:=by
 obtain ⟨g1,g2,g3,g4,g5,⟨cmr,g6⟩,g7,g8⟩:=h
 rw [List.append_nil] at hls
 subst hls
 refine ⟨X,lv,rb,cmr,q1,q2,q3,Ls,Q,t,cs',rfl,rfl,hX,h7,sub,fun k hk=>Nat.lt_of_lt_of_le (g2 k hk) k7.size,g3.keptU k7 (by simp [LexP]),ownsRow_keptU g4 k7 (fun _ _=>by simp [LexP]),
   g5.keptU k7 (fun _=>by simp [LexP]) (fun _=>by simp [LexP]) (fun g hg x=>x.elim (fun x=>absurd x (by decide)) (fun x=>x.2 hg)) (fun _ x=>x),g6.keptU k7 (fun g e x=>x.elim (fun x=>absurd x (by decide)) (fun x=>x.2 (g7 g e))),g7,hinc,hold,
   g8.trans (k7.mono (fun i u x=>x.elim Or.inl (fun x=>Or.inr ⟨x.1,fun hP=>x.2 (sub i hP)⟩)))⟩
def PBInv (N:Nat) (σ:Lx) (w:World) (P:Nat→Prop) (f:Nat→Int) (X:Nat) (a1 a2 a3 p1 p2 p3:Int) (tv:Value) (ls:List (Tk × List Tk)) (r:Option (List Tk)) (k:Nat) (v10:Value) (wr:World):Prop :=
 ∃ Q c cs cms lv Ls dn rem p,TokG f σ.T p c∧PBI N σ w P X a1 a2 a3 p1 p2 p3 tv Q c v10 cms lv Ls dn wr∧Body (c :: cs) rem r∧ChainG f σ.T c cs∧ls=dn++rem∧cs.length+1=k∧cms.length+k≤1000002∧Ls.length+k≤1000002
theorem lineAt_pos (T:List UInt8) (n:Nat):∃ k,(lineAt T n:Int)=Int.ofNat (k+1):=by
 have h:1≤lineAt T n:=by
   induction n with
   | zero=>simp [lineAt]
   | succ n ih=>simp only [lineAt];split <;> omega
 exact ⟨lineAt T n - 1,by show (lineAt T n:Int)=((lineAt T n - 1+1:Nat):Int);congr 1;omega⟩
theorem TokG.comTxt {f:Nat→Int} {T:List UInt8} {p:Nat} {t:Tk} (h:TokG f T p t) (hk:t.k=-5):tkTxt T t≠[]:=by
 cases h with
 | com s e hp hw hb hn =>
   intro e0
   have h1:=congrArg List.length e0
   have h2:=hb.h2
   have h3:=hb.he
   simp only [tkTxt,true_or,if_true] at h1
   rw [seg_length _ _ _ (by omega) (by omega)] at h1
   simp at h1
   omega
 | eof _ _=>cases hk
 | pun c s hc _ _ _ _ =>
   have hk:((c:Nat):Int)=-5:=hk
   omega
 | id s e _ _ _ _ _ _ _ _=>cases hk
 | suf s e _ _ _ _=>cases hk
theorem PsAt.asc {N:Nat} {w:World} {σ:Lx} {t:Tk} {P:Nat→Prop} (h:PsAt N w σ t P):∀ j,ch σ.T j < 128:=by
 obtain ⟨com,cs,⟨q,ts,_,hx⟩,_⟩:=h
 exact hx.ascii
theorem tkTxt_ok {T:List UInt8} (t:Tk) (hT:T.length≤1000000) (ha:∀ j,ch T j < 128):(tkTxt T t).length≤1000000∧∀ x ∈ tkTxt T t,x.toNat < 128:=by
 unfold tkTxt
 split
 · exact ⟨seg_len_le _ _ _ hT,seg_asc ha _ _⟩
 · exact ⟨seg_len_le _ _ _ hT,seg_asc ha _ _⟩
def zeroC:Cmt:=⟨0,0,0,[],false⟩
theorem zeroC_ok:zeroC.ok:=⟨Nat.zero_le _,by simp [zeroC]⟩
theorem zeroC_loc:LocC zeroC:=Or.inl rfl
set_option maxHeartbeats 8000000 in
theorem plb_g (N:Nat) (σ:Lx) (w:World) (P:Nat→Prop) (f:Nat→Int) (c:Tk) (cs:List Tk) (ls:List (Tk × List Tk)) (r:Option (List Tk)) (a1 a2 a3:Int) (tg tn tc:Nat) (lp:Tk) (nm:ByteArray)
   (h:PsAt N w σ c P) (hP:∀ k,P k→k < w.heap.size) (hT:Tabs N w σ f) (p0:Nat) (htk:TokG f σ.T p0 c) (hb:Body (c :: cs) ls r) (hch:ChainG f σ.T c cs) (hlen:cs.length≤1000000) (hpe:σ.perr=nilS) (hfn:σ.fn=.string nm) :
   Calls Tryz.prog 133 #[.pointer (some ⟨σ.B,0,none⟩),.agg #[.int .i64 a1,.int .i64 a2,.int .i64 a3],.slice (some ⟨tg,0,none⟩) tn tc,lp.valG σ.T] w fun e w' =>
     PlbOk N σ w P a1 a2 a3 (lineAt σ.T lp.s:Nat) (colAt σ.T lp.s:Nat) (lp.s:Nat) (.slice (some ⟨tg,0,none⟩) tn tc) ls r e w'∨(r=none∧Panics N σ w (LexP P) e w'):=by
 obtain ⟨i0,hi0,hi1⟩:=Option.map_eq_some_iff.1 Tryz.infoCom
 simp only [Prod.mk.injEq] at hi1
 obtain ⟨z0,hz0,hz1⟩:=Option.map_eq_some_iff.1 hi1.1
 have hz2:=hi1.2.1
 have hz3:=hi1.2.2
 clear hi1
 obtain ⟨i1,hi1',hy0,hy1,hy2⟩:=info_parts Tryz.infoPLine
 have hBw:=h.lt
 have hNw:N≤w.heap.size:=by have:=hT.hN;omega
 have H:=hide h
 have HP:=hide hP
 have HT:=hide hT
 have HB:=hide hb
 have HC:=hide hch
 have HPE:=hide hpe
 have HTK0:=hide htk
 have HFN:=hide hfn
 clear h hP hT hb hch hpe hfn htk
 unfold Tk.valG
 go_enter Tryz.func133,Tryz.ntmps133
 go_wp2_with fail
 have bX:=Blk.newAt ((w.alloc (Obj.cells #[.int .i64 a1,.int .i64 a2,.int .i64 a3] 134)).alloc (Obj.cells (lp.cellsG σ.T) 153)) 143 (lbCells a1 a2 a3 (lineAt σ.T lp.s:Nat) (colAt σ.T lp.s:Nat) (lp.s:Nat) (.slice (some ⟨tg,0,none⟩) tn tc) nilS nilS 0 0 0) (w.heap.size+1+1) (by simp)
 have kk:Ku N (fun _ _=>False) w (((w.alloc (Obj.cells #[.int .i64 a1,.int .i64 a2,.int .i64 a3] 134)).alloc (Obj.cells (lp.cellsG σ.T) 153)).alloc (Obj.cells (lbCells a1 a2 a3 (lineAt σ.T lp.s:Nat) (colAt σ.T lp.s:Nat) (lp.s:Nat) (.slice (some ⟨tg,0,none⟩) tn tc) nilS nilS 0 0 0) 143)):=(((Ku.refl _ _ _).alloc hNw _).alloc hNw _).alloc hNw _
 have INV:Hid (PBInv N σ w P f (w.heap.size+1+1) a1 a2 a3 (lineAt σ.T lp.s:Nat) (colAt σ.T lp.s:Nat) (lp.s:Nat) (.slice (some ⟨tg,0,none⟩) tn tc) ls r (cs.length+1) (.slice none 0 0) (((w.alloc (Obj.cells #[.int .i64 a1,.int .i64 a2,.int .i64 a3] 134)).alloc (Obj.cells (lp.cellsG σ.T) 153)).alloc (Obj.cells (lbCells a1 a2 a3 (lineAt σ.T lp.s:Nat) (colAt σ.T lp.s:Nat) (lp.s:Nat) (.slice (some ⟨tg,0,none⟩) tn tc) nilS nilS 0 0 0) 143))):=by
   refine hide ⟨P,c,cs,[],nilS,[],[],ls,p0,HTK0.out,⟨(H.out.keptU kk id id (fun _ x=>x.elim)).mono (fun k hk=>hk.elim id (fun e=>by simp [Value.ownBlock] at e)),fun _ x=>x,fun k hk=>Nat.lt_of_lt_of_le (HP.out k hk) kk.size,CmAt.nil _ _,by simp,fun _=>rfl,fun g e=>by simp [Value.ownBlock] at e,bX,⟨rfl,Or.inl ⟨rfl,rfl⟩⟩,.nil,by simp,by simp,kk.mono (fun _ _ x=>x.elim)⟩,HB.out,HC.out,rfl,rfl,by simp;omega,by simp;omega⟩
 unfold lbCells Tk.cellsG nilS at INV
 generalize (((w.alloc (Obj.cells #[.int .i64 a1,.int .i64 a2,.int .i64 a3] 134)).alloc (Obj.cells #[.int .i64 lp.k,.int .i64 (lineAt σ.T lp.s:Nat),.int .i64 (colAt σ.T lp.s:Nat),.int .i64 (lp.s:Nat),.int .i64 (lineAt σ.T lp.e:Nat),.int .i64 (colAt σ.T lp.e:Nat),.int .i64 (lp.e:Nat),.string (mkS (tkTxt σ.T lp))] 153)).alloc (Obj.cells #[.slice none 0 0,.slice none 0 0,.slice none 0 0,.int .i64 a1,.int .i64 a2,.int .i64 a3,.slice none 0 0,.slice none 0 0,.slice none 0 0,.int .i64 (lineAt σ.T lp.s:Nat),.int .i64 (colAt σ.T lp.s:Nat),.int .i64 (lp.s:Nat),.slice (some ⟨tg,0,none⟩) tn tc,.slice none 0 0,.slice none 0 0,.slice none 0 0,.slice none 0 0,.int .i64 0,.int .i64 0,.int .i64 0] 143))=W at INV ⊢
 clear kk bX
 generalize hX0:w.heap.size+1+1=X at INV ⊢
 have hXw:w.heap.size≤X:=by omega
 clear hX0
 go_loopg [10] (cs.length+1) (fun k v10 wr=>Hid (PBInv N σ w P f X a1 a2 a3 (lineAt σ.T lp.s:Nat) (colAt σ.T lp.s:Nat) (lp.s:Nat) (.slice (some ⟨tg,0,none⟩) tn tc) ls r k v10 wr))
 case atStart=>exact INV
 case round =>
   obtain ⟨Q,c,cs,cms,lv,Ls,dn,rem,p,htk,hI,hbd,hch,hls,hk,hcl,hll⟩:=hrel.out
   clear hrel INV
   have hkd:wr.cell? ⟨σ.B,4,none⟩=some (.int .i64 c.k):=hI.ps.kind
   have HI:=hide hI
   have HCH:=hide hch
   have HLS:=hide hls
   have HTK:=hide htk
   clear hI hch hls htk
   have hNr:N≤wr.heap.size:=by have:=HI.out.ku.size;omega
   have hTr:=hide (HT.out.below HI.out.ku.below)
   have hLt:=hide HI.out.ltAll
   cases hbd with
   | skip _ _ _ _ hsk hb' =>
     obtain ⟨d,ds,rfl⟩:=hb'.ne
     have HB':=hide hb'
     have HTD:=hide HCH.out.1
     clear hb'
     rcases hsk with hk2 | hk2 | hk2
     · rw [hk2] at hkd
       have HK2:=hide hk2
       clear hk2
       go_wp2_with fail
       refine (peek_any σ.B (-2) _ hkd).mono ?_
       rintro e w1 ⟨rfl,rfl⟩
       go_wp2_with fail
       refine (lex_g N σ wr c d _ f HI.out.ps hLt.out hTr.out HTD.out).mono ?_
       rintro e w2 ⟨rfl,hat2,hk2⟩
       have HI2:=hide (HI.out.lexed hk2 hat2)
       clear hat2 hk2
       unfold Tk.valG
       go_wp2_with fail
       go_roundg (gk - 1)
       case measure=>omega
       case rel=>exact hide ⟨Q,d,ds,cms,lv,Ls,dn,_,_,HTD.out,HI2.out,HB'.out,HCH.out.2,HLS.out,by simp at hk;omega,by omega,by omega⟩
     · rw [hk2] at hkd
       have HK2:=hide hk2
       clear hk2
       go_wp2_with fail
       refine (peek_any σ.B 10 _ hkd).mono ?_
       rintro e w1 ⟨rfl,rfl⟩
       go_wp2_with fail
       refine (lex_g N σ wr c d _ f HI.out.ps hLt.out hTr.out HTD.out).mono ?_
       rintro e w2 ⟨rfl,hat2,hk2⟩
       have HI2:=hide (HI.out.lexed hk2 hat2)
       clear hat2 hk2
       unfold Tk.valG
       have hN2:N≤w2.heap.size:=by have:=HI2.out.ku.size;omega
       rcases List.eq_nil_or_concat cms with hc0 | ⟨ini,las,hc0⟩
       · subst hc0
         have hv:=HI2.out.nil rfl
         subst hv
         unfold nilS at HI2 ⊢
         rcases Ls with _ | ⟨L,Ls⟩
         · obtain ⟨la,lcap,rfl⟩:=owns_any HI2.out.own
           have l13:w2.cell? ⟨X,13,none⟩=some (.slice la 0 lcap):=HI2.out.blk.cell 13 rfl
           go_wp2_with fail
           go_roundg (gk - 1)
           case measure=>omega
           case rel=>exact hide ⟨Q,d,ds,_,_,_,dn,_,_,HTD.out,HI2.out,HB'.out,HCH.out.2,HLS.out,by simp at hk;omega,by omega,by omega⟩
         · obtain ⟨la,lcap,rfl⟩:=owns_any HI2.out.own
           have l13:w2.cell? ⟨X,13,none⟩=some (.slice la (Ls.length+1) lcap):=HI2.out.blk.cell 13 rfl
           have l0:(0:Int) < (Ls.length:Int)+1:=by omega
           go_wp2_with (at_builtin;refine wpList_append_lies _ rfl _ _ _ rfl N 194 i0 _ 5 48 Tryz.und_coms hi0 hz0 hz2 hz3 hz1 (by omega) _ _ _ (by rfl) (HI2.out.com.1.alloc _) ⟨w2.heap.size,0,none⟩ 1 1 [.int .i64 0,.int .i64 0,.int .i64 0,.string ⟨#[]⟩,.bool false] (by rfl) (by rfl) (news_one _ _ _) (by simp [Value.oneCell']) (by omega) (by decide) (by decide) (by simp;omega) (w2.heap.size+1) (by simp) ?_;intro g cap w3 hown3 hgrow3 hat3 hlt3;have HI3:=hide (HI2.out.comment hN2 zeroC_ok zeroC_loc rfl hown3 hgrow3 hat3 (Nat.le_succ _) hlt3);clear hown3 hgrow3 hat3 hlt3)
           go_roundg (gk - 1)
           case measure=>omega
           case rel=>exact hide ⟨Q,d,ds,_,_,_,dn,_,_,HTD.out,HI3.out,HB'.out,HCH.out.2,HLS.out,by simp at hk;omega,by simp;omega,by omega⟩
       · rw [List.concat_eq_append] at hc0
         subst hc0
         obtain ⟨n,hn⟩:∃ n,ini.length=n:=⟨_,rfl⟩
         have hcom:=HI2.out.com.1
         rw [show (ini++[las]).length=n+1 from by simp [hn]] at hcom
         obtain ⟨cg,ccap,rfl⟩:=owns_form hcom
         have e1:w2.cell? ⟨cg,n * 5+3,none⟩=some (.string (mkS las.txt)):=by
           have:=hcom.cells rfl (n * 5+3) (.string (mkS las.txt)) (by
             rw [cvals_append,List.getElem?_append_right (by rw [cvals_len,hn];omega),cvals_len,hn]
             rw [show n * 5+3 - n * 5=3 from by omega]
             simp [cvals,Cmt.vals])
           simpa [Addr.add] using this
         have n0:(0:Int) < (n:Int)+1:=by omega
         have n1:(0:Int)≤(n:Int):=by omega
         have n2:(n:Int) < (n:Int)+1:=by omega
         have n3:IntKind.i64.wrap (n:Int)=(n:Int):=IntWalk.i64_in _ (by simp at hcl;omega)
         have n4:(((n:Int)+1) == 0)=false:=by rw [beq_eq_false_iff_ne];omega
         have hm1:(ini++[las]).length+1≤maxLen:=by unfold maxLen;omega
         have hm2:((ini++[las]).length+1) * 48≤140737488355328:=by omega
         have MM:=hide (And.intro hm1 hm2)
         have HN:=hide hn
         clear hcom hm1 hm2 hn
         cases hq:(mkS las.txt).toList.isEmpty
         · go_wp2_with (at_builtin;refine wpList_append_lies _ rfl _ _ _ rfl N 194 i0 _ 5 48 Tryz.und_coms hi0 hz0 hz2 hz3 hz1 (by omega) _ _ _ (by rfl) (HI2.out.com.1.alloc _) ⟨w2.heap.size,0,none⟩ 1 1 [.int .i64 0,.int .i64 0,.int .i64 0,.string ⟨#[]⟩,.bool false] (by rfl) (by rfl) (news_one _ _ _) (by simp [Value.oneCell']) (by omega) MM.out.1 MM.out.2 (by simp;omega) (w2.heap.size+1) (by simp) ?_;intro g cap w3 hown3 hgrow3 hat3 hlt3;have HI3:=hide (HI2.out.comment hN2 zeroC_ok zeroC_loc rfl hown3 hgrow3 hat3 (Nat.le_succ _) hlt3);clear hown3 hgrow3 hat3 hlt3)
           go_roundg (gk - 1)
           case measure=>omega
           case rel=>exact hide ⟨Q,d,ds,ini++[las]++[zeroC],lv,Ls,dn,_,_,HTD.out,by have h:=HI3.out;rw [show (ini++[las]).length+1=ini.length+1+1 from by simp] at h;exact h,HB'.out,HCH.out.2,HLS.out,by simp at hk;omega,by simp at hcl ⊢;omega,by omega⟩
         · go_wp2_with fail
           go_roundg (gk - 1)
           case measure=>omega
           case rel=>exact hide ⟨Q,d,ds,_,_,_,dn,_,_,HTD.out,HI2.out,HB'.out,HCH.out.2,HLS.out,by simp at hk;omega,by omega,by omega⟩
     · rw [hk2] at hkd
       have HK2:=hide hk2
       clear hk2
       go_wp2_with fail
       refine (peek_any σ.B (-5) _ hkd).mono ?_
       rintro e w1 ⟨rfl,rfl⟩
       go_wp2_with fail
       refine (lex_g N σ wr c d _ f HI.out.ps hLt.out hTr.out HTD.out).mono ?_
       rintro e w2 ⟨rfl,hat2,hk2⟩
       have HI2:=hide (HI.out.lexed hk2 hat2)
       clear hat2 hk2
       unfold Tk.valG
       have hN2:N≤w2.heap.size:=by have:=HI2.out.ku.size;omega
       have hm1:cms.length+1≤maxLen:=by unfold maxLen;omega
       have hm2:(cms.length+1) * 48≤140737488355328:=by omega
       have HI3:=hide (HI2.out.alloc hN2 (Obj.cells (c.cellsG σ.T) 153))
       have MM:=hide (And.intro hm1 hm2)
       clear hm1 hm2
       go_wp2_with (at_builtin;refine wpList_append_lies _ rfl _ _ _ rfl N 194 i0 _ 5 48 Tryz.und_coms hi0 hz0 hz2 hz3 hz1 (by omega) _ _ _ (by rfl) (HI3.out.com.1.alloc _) ⟨w2.heap.size+1,0,none⟩ 1 1 [.int .i64 (lineAt σ.T c.s:Nat),.int .i64 (colAt σ.T c.s:Nat),.int .i64 (c.s:Nat),.string (mkS (tkTxt σ.T c)),.bool false] (by rfl) (by rfl) (news_two _ _ _ _) (by simp [Value.oneCell']) (by omega) MM.out.1 MM.out.2 (by simp;omega) (w2.heap.size+1+1) (by simp) ?_;intro g cap w3 hown3 hgrow3 hat3 hlt3;have HI4:=hide (HI3.out.comment (x:=⟨(lineAt σ.T c.s:Nat),(colAt σ.T c.s:Nat),(c.s:Nat),tkTxt σ.T c,false⟩) (by simp;omega) (tkTxt_ok c HT.out.hT HI2.out.ps.asc) (Or.inr ((lineAt_pos σ.T c.s).imp (fun _ e=>⟨e,HTK.out.comTxt HK2.out⟩))) rfl hown3 hgrow3 hat3 (by simp) hlt3);clear hown3 hgrow3 hat3 hlt3)
       go_roundg (gk - 1)
       case measure=>omega
       case rel=>exact hide ⟨Q,d,ds,_,_,_,dn,_,_,HTD.out,HI4.out,HB'.out,HCH.out.2,HLS.out,by simp at hk;omega,by simp;omega,by omega⟩
   | eof _ h1 =>
     have hck:c.k=-1:=h1
     rw [hck] at hkd
     obtain ⟨ics,hib,hi17,hi0,b1,b2,b3,hi12,hi13,hi14⟩:=HI.out.ps.inp
     rw [HPE.out] at hi17
     rw [HFN.out] at hi0
     have HIB:=hide hib
     clear hib
     go_wp2_with fail
     refine (peek_any σ.B (-1) _ hkd).mono ?_
     rintro e w1 ⟨rfl,rfl⟩
     go_wp2_with fail
     refine (error_g σ.B wr ics nm _ b1 b2 b3 HIB.out hi0 hi12 hi13 hi14 hi17).mono ?_
     unfold panicE
     rintro e w2 ⟨rfl,hk2,g,cap,hb2⟩
     have HK2:=hide hk2
     have HB2:=hide hb2
     clear hk2 hb2
     go_wp2_with fail
     have hsz:17 < ics.size:=(Array.getElem?_eq_some_iff.1 hi17).1
     exact ⟨rfl,Or.inr ⟨rfl,HI.out.ku.trans (Ku.of_kpB HIB.out HT.out.hN HK2.out),_,g,cap,HB2.out,by simp [hsz]⟩⟩
   | close _ e t cs' h41 he =>
     rw [h41] at hkd
     have HE:=hide he
     have HTD:=hide HCH.out.1
     have HTD2:=hide HCH.out.2.1
     clear he h41
     go_wp2_with fail
     refine (peek_any σ.B 41 _ hkd).mono ?_
     rintro e0 w1 ⟨rfl,rfl⟩
     go_wp2_with fail
     refine (lex_g N σ wr c e _ f HI.out.ps hLt.out hTr.out HTD.out).mono ?_
     rintro e0 w2 ⟨rfl,hat2,hk2⟩
     have HI2:=hide (HI.out.lexed hk2 hat2)
     clear hat2 hk2
     unfold Tk.valG
     have hw2:w.heap.size≤w2.heap.size:=HI2.out.ku.size
     have xb:=HI2.out.blk
     have xf:∀ j,w2.frozen? ⟨X,j,none⟩=false:=fun j=>xb.free j
     have x14:w2.cell? ⟨X,14,none⟩=some (.slice none 0 0):=xb.cell 14 rfl
     have x17:w2.cell? ⟨X,17,none⟩=some (.int .i64 0):=xb.cell 17 rfl
     have x18:w2.cell? ⟨X,18,none⟩=some (.int .i64 0):=xb.cell 18 rfl
     have x19:w2.cell? ⟨X,19,none⟩=some (.int .i64 0):=xb.cell 19 rfl
     have xl:X < w2.heap.size:=xb.lt
     have xn:w2.heap.size≠X:=by omega
     clear xb
     obtain ⟨ca,cc,rfl⟩:=owns_any HI2.out.com.1
     rcases cms with _ | ⟨x,_ | ⟨x2,cms⟩⟩
     · have HC:=hide (HI2.out.close (.slice ca 0 cc) (Or.inl rfl) (Obj.cells (c.cellsG σ.T) 153) (lineAt σ.T c.s:Nat) (colAt σ.T c.s:Nat) (c.s:Nat) hXw hNw hw2 _ rfl)
       go_wp2_with fail
       change Calls _ _ _ (((((w2.setCell ⟨X,14,none⟩ (.slice ca 0 cc)).setCell ⟨X,17,none⟩ (.int .i64 (lineAt σ.T c.s:Nat))).setCell ⟨X,18,none⟩ (.int .i64 (colAt σ.T c.s:Nat))).setCell ⟨X,19,none⟩ (.int .i64 (c.s:Nat))).alloc (Obj.cells (c.cellsG σ.T) 153)) _
       generalize (((((w2.setCell ⟨X,14,none⟩ (.slice ca 0 cc)).setCell ⟨X,17,none⟩ (.int .i64 (lineAt σ.T c.s:Nat))).setCell ⟨X,18,none⟩ (.int .i64 (colAt σ.T c.s:Nat))).setCell ⟨X,19,none⟩ (.int .i64 (c.s:Nat))).alloc (Obj.cells (c.cellsG σ.T) 153))=W5 at HC ⊢
       have hkd5:=HC.out.1.kind
       have HOK:=hide (fun w7 h7 k7=>plb_ok (cs':=cs') (w7:=w7) (t:=t) hXw (fun k x=>Or.inl (HI2.out.sub k x)) HC.out HI2.out.inc HI2.out.old HLS.out h7 k7)
       refine (peek_any σ.B e.k _ hkd5).mono ?_
       rintro e0 w6 ⟨rfl,rfl⟩
       go_wp2_with fail
       refine (isEOL_yes e HE.out _).mono ?_
       rintro e0 w6 ⟨rfl,rfl⟩
       go_wp2_with fail
       refine (lex_g N σ _ e t _ f HC.out.1 HC.out.2.1 (HT.out.below HC.out.2.2.2.2.2.2.2.below) HTD2.out).mono ?_
       rintro e0 w7 ⟨rfl,hat7,hk7⟩
       have HAT7:=hide (And.intro hat7 hk7)
       clear hat7 hk7
       unfold Tk.valG
       go_wp2_with fail
       go_ret
       first | exact Or.inl (HOK.out _ HAT7.out.1 HAT7.out.2) | exact HOK.out _ HAT7.out.1 HAT7.out.2
     · have hcom:=HI2.out.com.1
       obtain ⟨cg,ccap,hcg⟩:=owns_form (n:=0) hcom
       simp only [List.length_cons,List.length_nil,Nat.zero_add,Value.slice.injEq,true_and] at hcg
       obtain ⟨rfl,rfl⟩:=hcg
       have hloc:=HI2.out.loc x (by simp)
       obtain ⟨xl0,xc0,xb0,xt0,xs0⟩:=x
       have k0:w2.cell? ⟨cg,0,none⟩=some (.int .i64 xl0):=by
         have:=hcom.cells rfl 0 (.int .i64 xl0) (by simp [cvals,Cmt.vals])
         simpa [Addr.add] using this
       have k1:w2.cell? ⟨cg,1,none⟩=some (.int .i64 xc0):=by
         have:=hcom.cells rfl 1 (.int .i64 xc0) (by simp [cvals,Cmt.vals])
         simpa [Addr.add] using this
       have k2:w2.cell? ⟨cg,2,none⟩=some (.int .i64 xb0):=by
         have:=hcom.cells rfl 2 (.int .i64 xb0) (by simp [cvals,Cmt.vals])
         simpa [Addr.add] using this
       have k3:w2.cell? ⟨cg,3,none⟩=some (.string (mkS xt0)):=by
         have:=hcom.cells rfl 3 (.string (mkS xt0)) (by simp [cvals,Cmt.vals])
         simpa [Addr.add] using this
       have k4:w2.cell? ⟨cg,4,none⟩=some (.bool xs0):=by
         have:=hcom.cells rfl 4 (.bool xs0) (by simp [cvals,Cmt.vals])
         simpa [Addr.add] using this
       have kn:=World.new_ne w2 _ k0
       simp only at kn
       have kn':=kn.symm
       have kl:=World.block_lt_of_cell? w2 _ k0
       simp only at kl
       clear hcom
       rcases hloc with hz | ⟨n,hz,hz2⟩
       · simp only [Cmt.mk.injEq] at hz
         obtain ⟨rfl,rfl,rfl,rfl,rfl⟩:=hz
         have he:=com_eq_yes
         unfold mkS at k3
         have HC:=hide (HI2.out.close (.slice none 0 0) (Or.inr rfl) (Obj.cells (c.cellsG σ.T) 153) (lineAt σ.T c.s:Nat) (colAt σ.T c.s:Nat) (c.s:Nat) hXw hNw hw2 _ rfl)
         go_wp2_with fail
         change Calls _ _ _ (((((w2.setCell ⟨X,14,none⟩ (.slice none 0 0)).setCell ⟨X,17,none⟩ (.int .i64 (lineAt σ.T c.s:Nat))).setCell ⟨X,18,none⟩ (.int .i64 (colAt σ.T c.s:Nat))).setCell ⟨X,19,none⟩ (.int .i64 (c.s:Nat))).alloc (Obj.cells (c.cellsG σ.T) 153)) _
         generalize (((((w2.setCell ⟨X,14,none⟩ (.slice none 0 0)).setCell ⟨X,17,none⟩ (.int .i64 (lineAt σ.T c.s:Nat))).setCell ⟨X,18,none⟩ (.int .i64 (colAt σ.T c.s:Nat))).setCell ⟨X,19,none⟩ (.int .i64 (c.s:Nat))).alloc (Obj.cells (c.cellsG σ.T) 153))=W5 at HC ⊢
         have hkd5:=HC.out.1.kind
         have HOK:=hide (fun w7 h7 k7=>plb_ok (cs':=cs') (w7:=w7) (t:=t) hXw (fun k x=>Or.inl (HI2.out.sub k x)) HC.out HI2.out.inc HI2.out.old HLS.out h7 k7)
         refine (peek_any σ.B e.k _ hkd5).mono ?_
         rintro e0 w6 ⟨rfl,rfl⟩
         go_wp2_with fail
         refine (isEOL_yes e HE.out _).mono ?_
         rintro e0 w6 ⟨rfl,rfl⟩
         go_wp2_with fail
         refine (lex_g N σ _ e t _ f HC.out.1 HC.out.2.1 (HT.out.below HC.out.2.2.2.2.2.2.2.below) HTD2.out).mono ?_
         rintro e0 w7 ⟨rfl,hat7,hk7⟩
         have HAT7:=hide (And.intro hat7 hk7)
         clear hat7 hk7
         unfold Tk.valG
         go_wp2_with fail
         go_ret
         first | exact Or.inl (HOK.out _ HAT7.out.1 HAT7.out.2) | exact HOK.out _ HAT7.out.1 HAT7.out.2
       · simp only at hz hz2
         subst hz
         have he:=com_eq_no n xc0 xb0 (mkS xt0) xs0
         have HC:=hide (HI2.out.close (.slice (some ⟨cg,0,none⟩) 1 cc) (Or.inl rfl) (Obj.cells (c.cellsG σ.T) 153) (lineAt σ.T c.s:Nat) (colAt σ.T c.s:Nat) (c.s:Nat) hXw hNw hw2 _ rfl)
         clear hz2
         go_wp2_with fail
         change Calls _ _ _ (((((w2.setCell ⟨X,14,none⟩ (.slice (some ⟨cg,0,none⟩) 1 cc)).setCell ⟨X,17,none⟩ (.int .i64 (lineAt σ.T c.s:Nat))).setCell ⟨X,18,none⟩ (.int .i64 (colAt σ.T c.s:Nat))).setCell ⟨X,19,none⟩ (.int .i64 (c.s:Nat))).alloc (Obj.cells (c.cellsG σ.T) 153)) _
         generalize (((((w2.setCell ⟨X,14,none⟩ (.slice (some ⟨cg,0,none⟩) 1 cc)).setCell ⟨X,17,none⟩ (.int .i64 (lineAt σ.T c.s:Nat))).setCell ⟨X,18,none⟩ (.int .i64 (colAt σ.T c.s:Nat))).setCell ⟨X,19,none⟩ (.int .i64 (c.s:Nat))).alloc (Obj.cells (c.cellsG σ.T) 153))=W5 at HC ⊢
         have hkd5:=HC.out.1.kind
         have HOK:=hide (fun w7 h7 k7=>plb_ok (cs':=cs') (w7:=w7) (t:=t) hXw (fun k x=>Or.inl (HI2.out.sub k x)) HC.out HI2.out.inc HI2.out.old HLS.out h7 k7)
         refine (peek_any σ.B e.k _ hkd5).mono ?_
         rintro e0 w6 ⟨rfl,rfl⟩
         go_wp2_with fail
         refine (isEOL_yes e HE.out _).mono ?_
         rintro e0 w6 ⟨rfl,rfl⟩
         go_wp2_with fail
         refine (lex_g N σ _ e t _ f HC.out.1 HC.out.2.1 (HT.out.below HC.out.2.2.2.2.2.2.2.below) HTD2.out).mono ?_
         rintro e0 w7 ⟨rfl,hat7,hk7⟩
         have HAT7:=hide (And.intro hat7 hk7)
         clear hat7 hk7
         unfold Tk.valG
         go_wp2_with fail
         go_ret
         first | exact Or.inl (HOK.out _ HAT7.out.1 HAT7.out.2) | exact HOK.out _ HAT7.out.1 HAT7.out.2
     · have hn1:(((cms.length+1+1:Nat):Int) == 1)=false:=by rw [beq_eq_false_iff_ne];omega
       have hn2:(((cms.length:Int)+1+1) == 1)=false:=by rw [beq_eq_false_iff_ne];omega
       have HC:=hide (HI2.out.close (.slice ca (cms.length+1+1) cc) (Or.inl rfl) (Obj.cells (c.cellsG σ.T) 153) (lineAt σ.T c.s:Nat) (colAt σ.T c.s:Nat) (c.s:Nat) hXw hNw hw2 _ rfl)
       go_wp2_with fail
       change Calls _ _ _ (((((w2.setCell ⟨X,14,none⟩ (.slice ca (cms.length+1+1) cc)).setCell ⟨X,17,none⟩ (.int .i64 (lineAt σ.T c.s:Nat))).setCell ⟨X,18,none⟩ (.int .i64 (colAt σ.T c.s:Nat))).setCell ⟨X,19,none⟩ (.int .i64 (c.s:Nat))).alloc (Obj.cells (c.cellsG σ.T) 153)) _
       generalize (((((w2.setCell ⟨X,14,none⟩ (.slice ca (cms.length+1+1) cc)).setCell ⟨X,17,none⟩ (.int .i64 (lineAt σ.T c.s:Nat))).setCell ⟨X,18,none⟩ (.int .i64 (colAt σ.T c.s:Nat))).setCell ⟨X,19,none⟩ (.int .i64 (c.s:Nat))).alloc (Obj.cells (c.cellsG σ.T) 153))=W5 at HC ⊢
       have hkd5:=HC.out.1.kind
       have HOK:=hide (fun w7 h7 k7=>plb_ok (cs':=cs') (w7:=w7) (t:=t) hXw (fun k x=>Or.inl (HI2.out.sub k x)) HC.out HI2.out.inc HI2.out.old HLS.out h7 k7)
       refine (peek_any σ.B e.k _ hkd5).mono ?_
       rintro e0 w6 ⟨rfl,rfl⟩
       go_wp2_with fail
       refine (isEOL_yes e HE.out _).mono ?_
       rintro e0 w6 ⟨rfl,rfl⟩
       go_wp2_with fail
       refine (lex_g N σ _ e t _ f HC.out.1 HC.out.2.1 (HT.out.below HC.out.2.2.2.2.2.2.2.below) HTD2.out).mono ?_
       rintro e0 w7 ⟨rfl,hat7,hk7⟩
       have HAT7:=hide (And.intro hat7 hk7)
       clear hat7 hk7
       unfold Tk.valG
       go_wp2_with fail
       go_ret
       first | exact Or.inl (HOK.out _ HAT7.out.1 HAT7.out.2) | exact HOK.out _ HAT7.out.1 HAT7.out.2
   | line _ pre e cs' ls' _ hne h5 h41 hp he hb' =>
     obtain ⟨d,ds,rfl⟩:=hb'.ne
     obtain ⟨ca,cc,rfl⟩:=owns_any HI.out.com.1
     have HB':=hide hb'
     have HNE:=hide hne
     have HP':=hide hp
     have HE:=hide he
     have f1:(c.k == -2)=false:=by rw [beq_eq_false_iff_ne];exact hne.h2
     have f2:(c.k == 10)=false:=by rw [beq_eq_false_iff_ne];exact hne.h1
     have f3:(c.k == -5)=false:=by rw [beq_eq_false_iff_ne];exact h5
     have f4:(c.k == -1)=false:=by rw [beq_eq_false_iff_ne];exact hne.h3
     have f5:(c.k == 41)=false:=by rw [beq_eq_false_iff_ne];exact h41
     have hch2:ChainG f σ.T c (pre++[e,d]):=by
       have h1:=HCH.out
       rw [show pre++e :: d :: ds=(pre++[e,d])++ds from by simp] at h1
       exact h1.pre
     have hch3:ChainG f σ.T d ds:=by
       have h1:=HCH.out
       rw [show pre++e :: d :: ds=(pre++[e])++d :: ds from by simp] at h1
       exact h1.suf
     have hpl:pre.length≤1000000:=by simp at hk;omega
     have htd:TokG f σ.T e.e d:=by
       have h1:=HCH.out
       exact h1.mid
     have HCH2:=hide hch2
     have HCH3:=hide hch3
     have HTD:=hide htd
     clear hb' hne hp he h5 h41 hch2 hch3 htd
     go_wp2_with fail
     refine (peek_any σ.B c.k _ hkd).mono ?_
     rintro e0 w1 ⟨rfl,rfl⟩
     go_wp2_with fail
     refine (parseLine_g N σ wr _ f c pre e d HI.out.ps hLt.out hTr.out HCH2.out HNE.out HP'.out HE.out hpl).mono ?_
     rintro e0 w2 ⟨L,rfl,hLw,hat2,hk2,hL⟩
     have HI2:=hide (HI.out.lexed hk2 hat2)
     have hLs:∀ M ∈ Ls,M < L:=fun M hM=>by have:=HI.out.lns.lt M hM;omega
     have HLS2:=hide hLs
     have HL:=hide hL
     clear hat2 hk2 hL hLs
     obtain ⟨la,lcap,rfl⟩:=owns_any HI2.out.own
     have x13:w2.cell? ⟨X,13,none⟩=some (.slice la Ls.length lcap):=HI2.out.blk.cell 13 rfl
     have xl:X < w2.heap.size:=HI2.out.blk.lt
     have hw2:w.heap.size≤w2.heap.size:=HI2.out.ku.size
     have hwr:w.heap.size≤wr.heap.size:=HI.out.ku.size
     have hm1:Ls.length+1≤maxLen:=by unfold maxLen;omega
     have hm2:(Ls.length+1) * 8≤140737488355328:=by omega
     have MM:=hide (And.intro hm1 hm2)
     clear hm1 hm2
     obtain ⟨ltv,hlb,hlo⟩:=HL.out
     have xL:X≠L:=HI2.out.blk.ne hlb (by decide)
     have xL':L≠X:=xL.symm
     have HLN:Hid (¬ (some L=(Value.slice la Ls.length lcap).ownBlock)):=hide (fun e=>owns_ne HI2.out.own hlb (by decide) e.symm)
     have HLB:=hide hlb
     clear hlb hlo
     go_wp2_with (at_builtin;refine wpList_append_lies _ rfl _ _ _ rfl w.heap.size 92 i1 _ 1 8 Tryz.und_plines hi1' hy0 hy1 hy2 rfl (by omega) _ _ _ (by rfl) (HI2.out.own.alloc _) ⟨w2.heap.size,0,none⟩ 1 1 [.pointer (some ⟨L,0,none⟩)] (by rfl) (by rfl) (news_one _ _ _) (by simp [Value.oneCell']) (by omega) MM.out.1 MM.out.2 (by simp;omega) (w2.heap.size+1) (by simp) ?_;intro g cap w3 hown3 hgrow3 hat3 hlt3;have HI3:=hide (HI2.out.line (l:=(c,pre)) HL.out HLS2.out (by omega) hXw hNw hw2 rfl hown3 hgrow3 (by omega));have k3:Kp (fun i=>some i=(Value.slice la Ls.length lcap).ownBlock) w2 w3:=((Kp.refl _ w2).alloc _).grown hgrow3 (fun i e _=>e.symm);have xb3:=HI2.out.blk.kept k3 (HI2.out.notRow);have xf:∀ j,w3.frozen? ⟨X,j,none⟩=false:=fun j=>xb3.free j;have y13:w3.cell? ⟨X,13,none⟩=some (.slice la Ls.length lcap):=xb3.cell 13 rfl;have lb3:=HLB.out.kept k3 HLN.out;have lf:∀ j,w3.frozen? ⟨L,j,none⟩=false:=fun j=>lb3.free j;have l0:w3.cell? ⟨L,0,none⟩=some (.slice none 0 0):=lb3.cell 0 rfl;clear xb3 lb3 k3 hown3 hgrow3 hat3 hlt3)
     refine (comment_any _ _).mono ?_
     rintro e0 w4 ⟨rfl,rfl⟩
     go_wp2_with fail
     go_roundg (gk - (pre.length+2))
     case measure=>simp at hk;omega
     case rel=>exact hide ⟨_,d,ds,[],_,Ls++[L],dn++[(c,pre)],ls',_,HTD.out,HI3.out,HB'.out,HCH3.out,by rw [HLS.out];simp,by simp at hk ⊢;omega,by simp at hk ⊢;omega,by simp at hk ⊢;omega⟩
end
end Go.Proofs.YtifkpibjeamfkaaGreatFmt
