/-
  (*input).parseFile at a text of lines of words.
  (*input).order at a line and at a file of lines.
  Span, Comment, reverseComments.
-/
import Derived.Test.YtifkpibjeamfkaaGreatFmtZ08
import Derived.Laws.OwnMore
import Derived.OneCell
import Derived.Test.YtifkpibjeamfkaaGreatFmtZ03
set_option linter.unusedVariables false
set_option linter.unusedSimpArgs false
set_option maxRecDepth 100000
namespace Go.Proofs.YtifkpibjeamfkaaGreatFmt
section
open Go.RowKit Go.Proofs
theorem Chain.pre {T:List UInt8} {t:Tk} {a b:List Tk} (h:Chain T t (a++b)):Chain T t a:=by
 induction a generalizing t with
 | nil=>exact True.intro
 | cons x a ih=>exact ⟨h.1,ih h.2⟩
theorem Chain.suf {T:List UInt8} {t c:Tk} {a b:List Tk} (h:Chain T t (a++c :: b)):Chain T c b:=by
 induction a generalizing t with
 | nil=>exact h.2
 | cons x a ih=>exact ih h.2
inductive It
 | blank (nl:Tk)
 | line (t:Tk) (ts:List Tk) (nl:Tk)
def It.toks:It→List Tk
 | .blank nl=>[nl]
 | .line t ts nl=>t :: (ts++[nl])
def itoks:List It→List Tk
 | []=>[]
 | i :: is=>i.toks++itoks is
def It.ok:It→Prop
 | .blank nl=>nl.k=10
 | .line t ts nl=>Word t∧(∀ u ∈ ts,Word u)∧nl.k=10∧ts.length≤1000000
def It.lines:It→List (Tk × List Tk)
 | .blank _=>[]
 | .line t ts _=>[(t,ts)]
def ilines:List It→List (Tk × List Tk)
 | []=>[]
 | i :: is=>i.lines++ilines is
theorem ilines_append (a b:List It):ilines (a++b)=ilines a++ilines b:=by
 induction a with
 | nil=>rfl
 | cons i is ih=>simp [ilines,ih,List.append_assoc]
inductive LinesAt (N:Nat) (w:World) (T:List UInt8):List Nat→List (Tk × List Tk)→Prop
 | nil:LinesAt N w T [] []
 | cons {L:Nat} {Ls:List Nat} {l:Tk × List Tk} {ls:List (Tk × List Tk)} (h:LineAt N w T L l.1 l.2) (k:LinesAt N w T Ls ls):LinesAt N w T (L :: Ls) (l :: ls)
theorem LinesAt.keptT {N M:Nat} {S:TypeId→Prop} {w w':World} {T:List UInt8} {Ls:List Nat} {ls:List (Tk × List Tk)} (h:LinesAt N w T Ls ls) (k:Kt M S w w') (h1:¬ S 136) (h2:¬ S 9):LinesAt N w' T Ls ls:=by
 induction h with
 | nil=>exact .nil
 | cons h _ ih=>exact .cons (h.keptT k h1 h2) ih
theorem LinesAt.len {N:Nat} {w:World} {T:List UInt8} {Ls:List Nat} {ls:List (Tk × List Tk)} (h:LinesAt N w T Ls ls):Ls.length=ls.length:=by
 induction h with
 | nil=>rfl
 | cons _ _ ih=>simp [ih]
theorem LinesAt.snoc {N:Nat} {w:World} {T:List UInt8} {Ls:List Nat} {ls:List (Tk × List Tk)} {L:Nat} {t:Tk} {ts:List Tk} (h:LinesAt N w T Ls ls) (k:LineAt N w T L t ts):LinesAt N w T (Ls++[L]) (ls++[(t,ts)]):=by
 induction h with
 | nil=>exact .cons k .nil
 | cons h _ ih=>exact .cons h ih
theorem At.file {w:World} {σ:Lx} {t:Tk} (h:At w σ t) (v:Value):At (w.setCell ⟨σ.B,16,none⟩ v) { σ with file:=v } t:=by
 obtain ⟨q,ts,hs,hx⟩:=h
 refine ⟨q,ts,hs,⟨?_,fun j hj=>?_,hx.ascii,hx.hp,hx.hn,hx.hC,hx.hT,hx.hq,?_⟩⟩
 · exact (hx.blk.set 16 v).eq (by simp [Lx.cells,Lx.lexed])
 · have:=hx.txt j hj
   rw [World.cell?_setCell_far _ _ _ _ (by intro e;exact hx.ne e.symm)]
   exact this
 · obtain ⟨cs,fz,e⟩:=hx.dat
   exact ⟨cs,fz,(Below.heap_setCell _ _ _ _ hx.ne).trans e⟩
theorem At.kind {w:World} {σ:Lx} {t:Tk} (h:At w σ t):w.cell? ⟨σ.B,4,none⟩=some (.int .i64 t.k):=by
 obtain ⟨q,ts,_,hx⟩:=h
 exact hx.c4
def PFInv (N:Nat) (σ:Lx) (w:World) (its:List It) (en:Tk) (F:Nat) (k:Nat) (v2:Value) (wr:World):Prop :=
 ∃ pre rest c cs Ls,its=pre++rest∧rest.length=k∧itoks rest++[en]=c :: cs∧Chain σ.T c cs∧v2=.pointer none∧At wr σ c ∧
   FileAt N wr F ⟨#[]⟩ (Ls.map lineV)∧LinesAt N wr σ.T Ls (ilines pre)∧Kt N Stmt3 w wr∧Ls.length≤pre.length
theorem itoks_cons (its:List It) (en:Tk):∃ d ds,itoks its++[en]=d :: ds:=by
 cases its with
 | nil=>exact ⟨_,_,rfl⟩
 | cons i is=>cases i <;> exact ⟨_,_,rfl⟩
set_option maxHeartbeats 2000000 in
theorem parseFile_lines (N:Nat) (σ:Lx) (w:World) (its:List It) (en:Tk) (c:Tk) (cs:List Tk) (hen:en.k=-1) (hits:∀ i ∈ its,i.ok) (hts:itoks its++[en]=c :: cs) (hch:Chain σ.T c cs) (h:At w σ c)
   (hlen:its.length≤1000000) (hpr:PrTab w) (hP:0 < N) (hN:N≤σ.B) :
   Calls Tryz.prog 60 #[.pointer (some ⟨σ.B,0,none⟩)] w fun e w'=>e=.returned (.tuple #[])∧∃ F Ls,w.heap.size≤F∧At w' { σ with file:=.pointer (some ⟨F,0,none⟩) } en∧Kt N Stmt3 w w' ∧
     FileAt N w' F ⟨#[]⟩ (Ls.map lineV)∧LinesAt N w' σ.T Ls (ilines its):=by
 have hlt:σ.B < w.heap.size:=by obtain ⟨q,ts,_,hx⟩:=h;exact hx.blk.lt
 have hNw:N≤w.heap.size:=by omega
 have hne:w.heap.size≠σ.B:=by omega
 have hcell:∃ u,w.cell? ⟨σ.B,16,none⟩=some u:=by obtain ⟨q,ts,_,hx⟩:=h;exact ⟨_,hx.c16⟩
 obtain ⟨u16,h16⟩:=hcell
 have hfr:w.frozen? ⟨σ.B,16,none⟩=false:=by obtain ⟨q,ts,_,hx⟩:=h;exact hx.blk.free 16
 have H:=hide h
 have HP:=hide hpr
 have HC:=hide hch
 have HT:=hide hts
 have HI:=hide hits
 have HE:=hide hen
 clear h hpr hch hts hits hen
 go_enter Tryz.func60,Tryz.ntmps60
 go_wp2_with fail
 have hsz:(w.setCell ⟨σ.B,16,none⟩ (.pointer (some ⟨w.heap.size,0,none⟩))).heap.size=w.heap.size:=by simp
 have hAB:At (w.setCell ⟨σ.B,16,none⟩ (.pointer (some ⟨w.heap.size,0,none⟩))) { σ with file:=.pointer (some ⟨w.heap.size,0,none⟩) } c:=H.out.file _
 have hblkB:∃ cs,Blk w σ.B 155 cs:=by obtain ⟨q,ts,_,hx⟩:=H.out;exact ⟨_,hx.blk⟩
 obtain ⟨csB,hblkB⟩:=hblkB
 have kw:Kt N Stmt3 w ((w.setCell ⟨σ.B,16,none⟩ (.pointer (some ⟨w.heap.size,0,none⟩))).alloc (Obj.cells #[Value.string ⟨#[]⟩,nilS,nilS,nilS,nilS] 129)):=by
   refine Kt.alloc ?_ hNw _
   refine Kt.set_blk ?_ hN hblkB (Or.inl rfl)
   exact Kt.refl _ _ _
 have hF0:=Blk.new (w.setCell ⟨σ.B,16,none⟩ (.pointer (some ⟨w.heap.size,0,none⟩))) 129 #[Value.string ⟨#[]⟩,nilS,nilS,nilS,nilS]
 rw [hsz] at hF0
 have INV:Hid (PFInv N { σ with file:=.pointer (some ⟨w.heap.size,0,none⟩) } w its en w.heap.size its.length (.pointer none) ((w.setCell ⟨σ.B,16,none⟩ (.pointer (some ⟨w.heap.size,0,none⟩))).alloc (Obj.cells #[Value.string ⟨#[]⟩,nilS,nilS,nilS,nilS] 129))):=by
   refine hide ⟨[],its,c,cs,[],rfl,rfl,HT.out,HC.out,rfl,?_,⟨nilS,hF0,rfl,Or.inl ⟨rfl,rfl⟩⟩,.nil,kw,Nat.le_refl _⟩
   exact hAB.keptT (Kt.alloc (Kt.refl N (fun _=>False) _) (by rw [hsz];exact hNw) _) id id
 change Code.wp _ _ _ _ ((w.setCell ⟨σ.B,16,none⟩ (.pointer (some ⟨w.heap.size,0,none⟩))).alloc (Obj.cells #[Value.string ⟨#[]⟩,nilS,nilS,nilS,nilS] 129))
 generalize ((w.setCell ⟨σ.B,16,none⟩ (.pointer (some ⟨w.heap.size,0,none⟩))).alloc (Obj.cells #[Value.string ⟨#[]⟩,nilS,nilS,nilS,nilS] 129))=W at INV ⊢
 clear hAB kw hF0 hsz hblkB csB h16 hfr
 have HNW:=hide hNw
 go_loopg [2] its.length (fun k v2 wr=>Hid (PFInv N { σ with file:=.pointer (some ⟨w.heap.size,0,none⟩) } w its en w.heap.size k v2 wr))
 case atStart=>exact INV
 case round =>
   obtain ⟨pre,rest,t,tt,Ls,hpr,hgk,hrc,hct,rfl,hatc,hF,hLs,hkt,hll⟩:=hrel.out
   clear hrel INV
   have hkd:wr.cell? ⟨σ.B,4,none⟩=some (.int .i64 t.k):=hatc.kind
   have HPR:=hide hpr
   have HGK:=hide hgk
   have HRC:=hide hrc
   have HCT:=hide hct
   have HAC:=hide hatc
   have HF:=hide hF
   have HLS:=hide hLs
   have HK:=hide hkt
   have HLL:=hide hll
   clear hpr hgk hrc hct hatc hF hLs hkt hll
   rcases rest with _ | ⟨it,rest⟩
   · obtain ⟨rfl,rfl⟩:t=en∧tt=[]:=by
       have:=HRC.out
       simp only [itoks,List.nil_append,List.cons.injEq] at this
       exact ⟨this.1.symm,this.2.symm⟩
     have h0:pre=its:=by have:=HPR.out;simpa using this.symm
     go_wp2_with fail
     refine (peek_any σ.B (-1) _ (by rw [hkd,HE.out])).mono ?_
     rintro e w1 ⟨rfl,rfl⟩
     go_wp2_with fail
     go_returns
     refine ⟨rfl,w.heap.size,Ls,Nat.le_refl _,HAC.out,HK.out,HF.out,?_⟩
     rw [← h0];exact HLS.out
   · obtain ⟨d,ds,hd⟩:=itoks_cons rest en
     have hmem:it.ok:=HI.out it (by rw [HPR.out];simp)
     rcases it with nl | ⟨t',ts,nl⟩
     · obtain ⟨rfl,rfl⟩:t=nl∧tt=d :: ds:=by
         have:=HRC.out
         simp only [itoks,It.toks,List.cons_append,List.nil_append,List.cons.injEq] at this
         exact ⟨this.1.symm,this.2.symm.trans hd⟩
       have h10:t.k=10:=hmem
       rw [h10] at hkd
       have htd:TokAt σ.T t.e d:=HCT.out.1
       have HTD:=hide htd
       have HD:=hide hd
       have H10:=hide h10
       clear htd hd h10 hmem
       go_wp2_with fail
       refine (peek_any σ.B 10 _ hkd).mono ?_
       rintro e w1 ⟨rfl,rfl⟩
       go_wp2_with fail
       refine (lex_at N { σ with file:=.pointer (some ⟨w.heap.size,0,none⟩) } wr t d HAC.out HTD.out (HP.out.keptT HK.out hP) hP hN).mono ?_
       rintro e w2 ⟨rfl,hat2,hk2⟩
       have HA2:=hide hat2
       have HK2:=hide hk2
       clear hat2 hk2
       unfold Tk.val
       go_wp2_with fail
       go_roundg rest.length
       case measure=>have:=HGK.out;simp at this;omega
       case rel =>
         refine hide ⟨pre++[.blank t],rest,d,ds,Ls,by rw [HPR.out];simp,rfl,HD.out,HCT.out.2,rfl,HA2.out,HF.out.keptT HK2.out (by decide) (by decide),?_,HK.out.trans (HK2.out.mono (fun u h=>Or.inl h)),?_⟩
         · rw [ilines_append]
           have:=HLS.out.keptT HK2.out (by decide) (by decide)
           simpa [ilines,It.lines] using this
         · have:=HLL.out;simp;omega
     · obtain ⟨rfl,hrest⟩:t=t'∧tt=ts++[nl]++d :: ds:=by
         have:=HRC.out
         simp only [itoks,It.toks,List.cons_append,List.append_assoc,List.nil_append,List.cons.injEq] at this
         refine ⟨this.1.symm,?_⟩
         rw [← this.2,hd.symm]
         simp
       have hch1:Chain σ.T t (ts++[nl,d]):=by
         have h1:Chain σ.T t tt:=HCT.out
         rw [hrest,show ts++[nl]++d :: ds=(ts++[nl,d])++ds from by simp] at h1
         exact h1.pre
       have hch2:Chain σ.T d ds:=by
         have h1:Chain σ.T t tt:=HCT.out
         rw [hrest] at h1
         exact h1.suf
       have f1:(t.k == -1)=false:=by rcases hmem.1 with h | h <;> rw [h] <;> rfl
       have f5:(t.k == -5)=false:=by rcases hmem.1 with h | h <;> rw [h] <;> rfl
       have f10:(t.k == 10)=false:=by rcases hmem.1 with h | h <;> rw [h] <;> rfl
       have HM:=hide hmem
       have HC1:=hide hch1
       have HC2:=hide hch2
       have HD:=hide hd
       have HRR:=hide hrest
       clear hmem hch1 hch2 hd hrest
       have hxl:(Ls.map lineV).length≤1000000:=by
         have h1:=HLL.out
         have h2:=congrArg List.length HPR.out
         simp at h2
         simp;omega
       go_wp2_with fail
       refine (peek_any σ.B t.k _ hkd).mono ?_
       rintro e w1 ⟨rfl,rfl⟩
       go_wp2_with fail
       refine (parseStmt_line N { σ with file:=.pointer (some ⟨w.heap.size,0,none⟩) } wr t ts nl d w.heap.size ⟨#[]⟩ (Ls.map lineV) HAC.out HC1.out HM.out.2.1 HM.out.2.2.1 rfl HF.out HM.out.2.2.2 hxl (HP.out.keptT HK.out hP) hP hN HNW.out).mono ?_
       rintro e w2 ⟨rfl,hat2,hk2,L,hL,hln,hf2⟩
       have HA2:=hide hat2
       have HK2:=hide hk2
       have HLN:=hide hln
       have HF2:=hide hf2
       clear hat2 hk2 hln hf2
       go_wp2_with fail
       go_roundg rest.length
       case measure=>have:=HGK.out;simp at this;omega
       case rel =>
         have hls2:LinesAt N w2 σ.T Ls (ilines pre):=by
           have h1:=HLS.out
           exact h1.keptT HK2.out (by simp [Stmt3]) (by simp [Stmt3])
         refine hide ⟨pre++[.line t ts nl],rest,d,ds,Ls++[L],by rw [HPR.out];simp,rfl,HD.out,HC2.out,rfl,HA2.out,?_,?_,HK.out.trans HK2.out,?_⟩
         · simpa using HF2.out
         · rw [ilines_append]
           have:=hls2.snoc HLN.out
           simpa [ilines,It.lines] using this
         · have:=HLL.out;simp;omega
end
section
open Go.RowKit Go.Proofs
def XF (B M:Nat):Nat→Prop:=fun k=>k=B∨M≤k
structure Ords (M:Nat) (w:World) (B:Nat) (cs:Array Value) (pre post:Value) (xs ys:List Value):Prop where
 size:cs.size=20
 lt:B < M
 blk:Blk w B 155 ((cs.setIfInBounds 18 pre).setIfInBounds 19 post)
 rpre:w.ownsRow M 131 1 pre xs.length xs
 rpost:w.ownsRow M 131 1 post ys.length ys
 apart:∀ g,pre.ownBlock=some g→post.ownBlock≠some g
theorem Ords.c18 {M:Nat} {w:World} {B:Nat} {cs:Array Value} {pre post:Value} {xs ys:List Value} (h:Ords M w B cs pre post xs ys):w.cell? ⟨B,18,none⟩=some pre :=
 h.blk.cell 18 (by have:=h.size;simp [this])
theorem Ords.c19 {M:Nat} {w:World} {B:Nat} {cs:Array Value} {pre post:Value} {xs ys:List Value} (h:Ords M w B cs pre post xs ys):w.cell? ⟨B,19,none⟩=some post :=
 h.blk.cell 19 (by have:=h.size;simp [this])
theorem news_one (w:World) (cs:Array Value) (t:TypeId):∀ (j:Nat) (u:Value),cs.toList[j]?=some u→(w.alloc (.cells cs t)).cell? ((⟨w.heap.size,0,none⟩:Addr).add j)=some u :=
 World.news_of_block (heap_alloc_new w (.cells cs t))
theorem Ords.addPre {M:Nat} {w w3:World} {B:Nat} {cs:Array Value} {pre post:Value} {xs ys:List Value} (h:Ords M w B cs pre post xs ys) (hM:M≤w.heap.size) {o:Obj} {g cap n:Nat} {x:Value} (hg:(w.alloc o).grownBy w3 pre.ownBlock)
   (hown:w3.ownsRow M 131 1 (.slice (some ⟨g,0,none⟩) n cap) n (xs++[x])) (hat:pre.ownBlock=some g∨g=w.heap.size+1) :
   Ords M (w3.setCell ⟨B,18,none⟩ (.slice (some ⟨g,0,none⟩) n cap)) B cs (.slice (some ⟨g,0,none⟩) n cap) post (xs++[x]) ys∧Kp (XF B M) w (w3.setCell ⟨B,18,none⟩ (.slice (some ⟨g,0,none⟩) n cap)):=by
 have hn:n=(xs++[x]).length:=by have:=hown.1;omega
 have hgM:M≤g:=by have:=(hown.lt g rfl).1;exact this
 have hlt:=h.lt
 have hpb:∀ k,pre.ownBlock=some k→M≤k:=fun k e=>(h.rpre.lt k e).1
 have hb3:Blk w3 B 155 ((cs.setIfInBounds 18 pre).setIfInBounds 19 post):=(h.blk.alloc o).kept (Kp.of_grownBy hg) (fun e=>by have:=hpb B e.symm;omega)
 have hp3:w3.ownsRow M 131 1 post ys.length ys:=by
   refine (h.rpost.alloc o).kept hg ?_
   rcases hq:post.ownBlock with _ | k
   · exact Or.inl rfl
   · refine Or.inr (fun e=>h.apart k e.symm hq)
 refine ⟨⟨h.size,h.lt,(hb3.set 18 _).eq ?_,?_,?_,?_⟩,?_⟩
 · rw [Array.setIfInBounds_comm _ _ (by decide:(18:Nat)≠19)]
   simp
   rw [Array.setIfInBounds_comm _ _ (by decide:(19:Nat)≠18)]
 · rw [hn] at hown ⊢
   exact ownsRow_setCell_other hown (by simp [Value.ownBlock];omega) _
 · refine ownsRow_setCell_other hp3 (fun e=>?_) _
   have:=(hp3.lt _ e).1
   simp at this;omega
 · intro k e hk
   simp only [Value.ownBlock,Option.some.injEq] at e
   subst e
   rcases hat with hat | hat
   · exact h.apart _ hat hk
   · have:=(h.rpost.lt _ hk).2
     omega
 · refine Kp.set ?_ (fun _=>Or.inl rfl)
   exact ((Kp.refl _ w).alloc o).grown hg (fun k e _=>Or.inr (hpb k e))
theorem Ords.addPost {M:Nat} {w w3:World} {B:Nat} {cs:Array Value} {pre post:Value} {xs ys:List Value} (h:Ords M w B cs pre post xs ys) (hM:M≤w.heap.size) {o:Obj} {g cap n:Nat} {x:Value} (hg:(w.alloc o).grownBy w3 post.ownBlock)
   (hown:w3.ownsRow M 131 1 (.slice (some ⟨g,0,none⟩) n cap) n (ys++[x])) (hat:post.ownBlock=some g∨g=w.heap.size+1) :
   Ords M (w3.setCell ⟨B,19,none⟩ (.slice (some ⟨g,0,none⟩) n cap)) B cs pre (.slice (some ⟨g,0,none⟩) n cap) xs (ys++[x])∧Kp (XF B M) w (w3.setCell ⟨B,19,none⟩ (.slice (some ⟨g,0,none⟩) n cap)):=by
 have hn:n=(ys++[x]).length:=by have:=hown.1;omega
 have hgM:M≤g:=by have:=(hown.lt g rfl).1;exact this
 have hlt:=h.lt
 have hpb:∀ k,post.ownBlock=some k→M≤k:=fun k e=>(h.rpost.lt k e).1
 have hb3:Blk w3 B 155 ((cs.setIfInBounds 18 pre).setIfInBounds 19 post):=(h.blk.alloc o).kept (Kp.of_grownBy hg) (fun e=>by have:=hpb B e.symm;omega)
 have hp3:w3.ownsRow M 131 1 pre xs.length xs:=by
   refine (h.rpre.alloc o).kept hg ?_
   rcases hq:pre.ownBlock with _ | k
   · exact Or.inl rfl
   · exact Or.inr (fun e=>h.apart k hq e.symm)
 refine ⟨⟨h.size,h.lt,(hb3.set 19 _).eq (by simp),?_,?_,?_⟩,?_⟩
 · refine ownsRow_setCell_other hp3 (fun e=>?_) _
   have:=(hp3.lt _ e).1
   simp at this;omega
 · rw [hn] at hown ⊢
   exact ownsRow_setCell_other hown (by simp [Value.ownBlock];omega) _
 · intro k e hk
   simp only [Value.ownBlock,Option.some.injEq] at hk
   subst hk
   rcases hat with hat | hat
   · exact h.apart _ e hat
   · have:=(h.rpre.lt _ e).2
     omega
 · refine Kp.set ?_ (fun _=>Or.inl rfl)
   exact ((Kp.refl _ w).alloc o).grown hg (fun k e _=>Or.inr (hpb k e))
theorem XF.trans {B M:Nat} {a b c:World} (h:Kp (XF B M) a b) (k:Kp (XF B M) b c):Kp (XF B M) a c:=h.trans k
set_option maxHeartbeats 1000000 in
theorem order_line (M:Nat) (w:World) (B:Nat) (cs:Array Value) (pre post:Value) (xs ys:List Value) (L:Nat) (h:Ords M w B cs pre post xs ys) (hM:M≤w.heap.size) (hx:xs.length≤1000002) (hy:ys.length≤1000002) :
   Calls Tryz.prog 98 #[.pointer (some ⟨B,0,none⟩),lineV L] w fun e w'=>e=.returned (.tuple #[])∧∃ pre' post',Ords M w' B cs pre' post' (xs++[lineV L]) (ys++[lineV L])∧Kp (XF B M) w w':=by
 obtain ⟨i0,hi0,hz0,hz1,hz2⟩:=info_parts Tryz.infoExpr
 unfold lineV
 have h18:=h.c18
 have h19:=h.c19
 have hlt:B < w.heap.size:=h.blk.lt
 have hfr:∀ j,w.frozen? ⟨B,j,none⟩=false:=fun j=>h.blk.free j
 have hm1:xs.length+1≤maxLen:=by unfold maxLen;omega
 have hm2:(xs.length+1) * 16≤140737488355328:=by omega
 have hn1:ys.length+1≤maxLen:=by unfold maxLen;omega
 have hn2:(ys.length+1) * 16≤140737488355328:=by omega
 have ho:∀ u ∈ [Value.iface 92 (.pointer (some ⟨L,0,none⟩))],u.oneCell'=true:=by simp [Value.oneCell']
 have hs:∀ (v:World) (a:Obj),M≤v.heap.size→M≤(v.alloc a).heap.size:=fun v a hv=>by simp;omega
 have H:=hide h
 have MM:=hide (And.intro hm1 (And.intro hm2 (And.intro hn1 (And.intro hn2 (And.intro ho hs)))))
 clear h hm1 hm2 hn1 hn2 ho hs
 go_enter Tryz.func98,Tryz.ntmps98
 go_wp2_with (first
   | (at_builtin;refine wpList_append_lies _ rfl _ _ _ rfl M 131 i0 _ 1 16 Tryz.und_exprs hi0 hz0 hz1 hz2 rfl (by omega) _ _ _ (by rfl) (H.out.rpre.alloc _) ⟨w.heap.size,0,none⟩ 1 1 [.iface 92 (.pointer (some ⟨L,0,none⟩))] (by rfl) (by rfl) (news_one _ _ _) MM.out.2.2.2.2.1 (by omega) MM.out.1 MM.out.2.1 (MM.out.2.2.2.2.2 _ _ hM) (w.heap.size+1) (by simp) ?_;intro g cap w3 hown3 hgrow3 hat3 hlt3;obtain ⟨hO2,hK2⟩:=H.out.addPre hM hgrow3 hown3 hat3;have hb3:=Blk.kept (H.out.blk.alloc _) (Kp.of_grownBy hgrow3) (fun e=>by have:=(H.out.rpre.lt B e.symm).1;have:=H.out.lt;omega);have e18:w3.cell? ⟨B,18,none⟩=some pre:=hb3.cell 18 (by have:=H.out.size;simp [this]);have e19:w3.cell? ⟨B,19,none⟩=some post:=hb3.cell 19 (by have:=H.out.size;simp [this]);have f3:∀ j,w3.frozen? ⟨B,j,none⟩=false:=fun j=>hb3.free j;have s3:w3.heap.size=w.heap.size+1∨w.heap.size+1≤w3.heap.size:=Or.inr (by have:=hgrow3.size;simp at this;omega);clear hb3;have HO2:=hide hO2;have HK2:=hide hK2;clear hO2 hK2 hown3 hgrow3 hat3 hlt3)
   | (at_builtin;have hM4:M≤(w3.setCell ⟨B,18,none⟩ (.slice (some ⟨g,0,none⟩) (xs.length+1) cap)).heap.size:=(by simp;omega);have hsz:(w3.setCell ⟨B,18,none⟩ (.slice (some ⟨g,0,none⟩) (xs.length+1) cap)).heap.size=w3.heap.size:=(by simp);generalize hW:w3.setCell ⟨B,18,none⟩ (.slice (some ⟨g,0,none⟩) (xs.length+1) cap)=W at HO2 HK2 hM4 hsz ⊢;clear hW e18 e19 f3 s3;refine wpList_append_lies _ rfl _ _ _ rfl M 131 i0 _ 1 16 Tryz.und_exprs hi0 hz0 hz1 hz2 rfl (by omega) _ _ _ (by rfl) (HO2.out.rpost.alloc _) ⟨w3.heap.size,0,none⟩ 1 1 [.iface 92 (.pointer (some ⟨L,0,none⟩))] (by rfl) (by rfl) (by rw [← hsz];exact news_one _ _ _) MM.out.2.2.2.2.1 (by omega) MM.out.2.2.1 MM.out.2.2.2.1 (MM.out.2.2.2.2.2 _ _ hM4) (w3.heap.size+1) (by simp [hsz]) ?_;intro g' cap' w5 hown3 hgrow3 hat3 hlt3;rw [← hsz] at hat3;obtain ⟨hO4,hK4⟩:=HO2.out.addPost hM4 hgrow3 hown3 hat3;have hb3:=Blk.kept (HO2.out.blk.alloc _) (Kp.of_grownBy hgrow3) (fun e=>by have:=(HO2.out.rpost.lt B e.symm).1;have:=HO2.out.lt;omega);have e19:w5.cell? ⟨B,19,none⟩=some post:=hb3.cell 19 (by have:=HO2.out.size;simp [this]);have f3:∀ j,w5.frozen? ⟨B,j,none⟩=false:=fun j=>hb3.free j;clear hb3;have HO4:=hide hO4;have HK4:=hide hK4;clear hO4 hK4 hown3 hgrow3 hat3 hlt3))
 go_returns
 exact ⟨rfl,_,_,HO4.out,HK2.out.trans HK4.out⟩
theorem ownsRow_kp {w w':World} {X:Nat→Prop} {N:Nat} {e:TypeId} {size n:Nat} {v:Value} {xs:List Value} (h:w.ownsRow N e size v n xs) (k:Kp X w w') (hn:∀ g,v.ownBlock=some g→¬ X g):w'.ownsRow N e size v n xs:=by
 obtain ⟨h1,h2⟩:=h
 refine ⟨h1,?_⟩
 rcases h2 with h2 | ⟨g,cap,cur,rfl,hg,hh,r⟩
 · exact Or.inl h2
 · exact Or.inr ⟨g,cap,cur,rfl,hg,(k.block g (Array.getElem?_eq_some_iff.1 hh).1 (hn g rfl)).trans hh,r⟩
def fileV (F:Nat):Value:=.iface 87 (.pointer (some ⟨F,0,none⟩))
def OFInv (M:Nat) (w:World) (B F:Nat) (cs:Array Value) (Ls:List Nat) (k:Nat) (v51:Value) (wr:World):Prop :=
 ∃ a b pre post,Ls=a++b∧b.length=k∧v51=.int .i64 (a.length:Nat)∧Ords M wr B cs pre post (fileV F :: a.map lineV) (a.map lineV)∧Kp (XF B M) w wr
set_option maxHeartbeats 1000000 in
theorem order_file (N:Nat) (w:World) (B F:Nat) (nm:ByteArray) (cs:Array Value) (Ls:List Nat) (h:Ords w.heap.size w B cs nilS nilS [] []) (hF:FileAt N w F nm (Ls.map lineV)) (hl0:0 < Ls.length) (hl:Ls.length≤1000000) :
   Calls Tryz.prog 98 #[.pointer (some ⟨B,0,none⟩),fileV F] w fun e w'=>e=.returned (.tuple #[])∧∃ pre' post',Ords w.heap.size w' B cs pre' post' (fileV F :: Ls.map lineV) (Ls.map lineV++[fileV F])∧Kp (XF B w.heap.size) w w':=by
 obtain ⟨i0,hi0,hz0,hz1,hz2⟩:=info_parts Tryz.infoExpr
 obtain ⟨v,hFb,hFo⟩:=hF
 obtain ⟨g0,cap0,rfl⟩:∃ g cap,v=.slice (some ⟨g,0,none⟩) Ls.length cap:=by
   rcases hFo.2 with ⟨_,h2⟩ | ⟨g,cap,cur,e,_⟩
   · rw [List.length_map] at h2;omega
   · exact ⟨g,cap,by simpa using e⟩
 have hg0:g0 < w.heap.size:=(hFo.lt g0 rfl).2
 have hgB:g0≠B:=by
   rcases hFo.2 with ⟨_,h2⟩ | ⟨g,cap,cur,e,_,hh,_⟩
   · rw [List.length_map] at h2;omega
   · have hb:=h.blk.out
     rintro rfl
     simp only [Value.slice.injEq,Option.some.injEq,Addr.mk.injEq] at e
     rw [e.1.1,hh] at hb
     simp at hb
 have hFB:F≠B:=hFb.ne h.blk (by decide)
 have hFl:=hFb.lt
 unfold fileV
 have h18:w.cell? ⟨B,18,none⟩=some (.slice none 0 0):=h.c18
 have h19:w.cell? ⟨B,19,none⟩=some (.slice none 0 0):=h.c19
 have hlt:B < w.heap.size:=h.blk.lt
 have hfr:∀ j,w.frozen? ⟨B,j,none⟩=false:=fun j=>h.blk.free j
 have hn1:(Ls.length+1)≤maxLen:=by unfold maxLen;omega
 have hn2:(Ls.length+1) * 16≤140737488355328:=by omega
 have hk1:0+1≤maxLen:=by unfold maxLen;omega
 have ho:∀ u ∈ [Value.iface 87 (.pointer (some ⟨F,0,none⟩))],u.oneCell'=true:=by simp [Value.oneCell']
 have H:=hide h
 have HFb:=hide hFb
 have HFo:=hide hFo
 have MM:=hide (And.intro hn1 (And.intro hn2 (And.intro hk1 ho)))
 clear h hn1 hn2 hk1 ho hFb hFo
 go_enter Tryz.func98,Tryz.ntmps98
 go_wp2_with (at_builtin;refine wpList_append_lies _ rfl _ _ _ rfl w.heap.size 131 i0 _ 1 16 Tryz.und_exprs hi0 hz0 hz1 hz2 rfl (by omega) _ _ _ (by rfl) (H.out.rpre.alloc _) ⟨w.heap.size,0,none⟩ 1 1 [.iface 87 (.pointer (some ⟨F,0,none⟩))] (by rfl) (by rfl) (news_one _ _ _) MM.out.2.2.2 (by omega) MM.out.2.2.1 (by simp) (by simp) (w.heap.size+1) (by simp) ?_;intro g cap w3 hown3 hgrow3 hat3 hlt3;obtain ⟨hO2,hK2⟩:=H.out.addPre (Nat.le_refl _) hgrow3 hown3 hat3;have hKg:=(Kp.refl (fun _=>False) w).alloc (Obj.cells #[Value.iface 87 (.pointer (some ⟨F,0,none⟩))] 131);have hb3:=Blk.kept (H.out.blk.alloc (Obj.cells #[Value.iface 87 (.pointer (some ⟨F,0,none⟩))] 131)) (Kp.of_grownBy hgrow3) (fun e=>by cases e);have hF3:=Blk.kept (HFb.out.alloc (Obj.cells #[Value.iface 87 (.pointer (some ⟨F,0,none⟩))] 131)) (Kp.of_grownBy hgrow3) (fun e=>by cases e);have e18:w3.cell? ⟨B,18,none⟩=some (.slice none 0 0):=hb3.cell 18 (by have:=H.out.size;simp [this,nilS]);have e4:w3.cell? ⟨F,4,none⟩=some (.slice (some ⟨g0,0,none⟩) Ls.length cap0):=hF3.cell 4 rfl;have f3:∀ j,w3.frozen? ⟨B,j,none⟩=false:=fun j=>hb3.free j;clear hb3 hKg hF3;have HO2:=hide hO2;have HK2:=hide hK2;clear hO2 hK2 hown3 hgrow3 hat3 hlt3)
 generalize hW:w3.setCell ⟨B,18,none⟩ (.slice (some ⟨g,0,none⟩) 1 cap)=W at HO2 HK2 ⊢
 clear hW e18 e4 f3
 go_loopg [51] Ls.length (fun k v51 wr=>Hid (OFInv w.heap.size w B F cs Ls k v51 wr))
 case atStart=>exact hide ⟨[],Ls,_,_,rfl,rfl,rfl,HO2.out,HK2.out⟩
 case round =>
   obtain ⟨a,b,pre,post,hab,hbl,rfl,hO,hK⟩:=hrel.out
   clear hrel
   have hgl:a.length+b.length=Ls.length:=by have:=congrArg List.length hab;simpa using this.symm
   have HO:=hide hO
   have HK:=hide hK
   clear hO hK HO2 HK2
   have hwM:w.heap.size≤wr.heap.size:=HK.out.size
   rcases b with _ | ⟨L,b⟩
   · have hge:((a.length:Int) < (Ls.length:Int))=False:=by simp at hgl;simp;omega
     have hal:Ls=a:=by simpa using hab
     have e18:=HO.out.c18
     have e19:=HO.out.c19
     have f3:∀ j,wr.frozen? ⟨B,j,none⟩=false:=fun j=>HO.out.blk.free j
     have HAL:=hide hal
     have hml:(a.map lineV).length+1≤maxLen:=by rw [List.length_map,← hal];exact MM.out.1
     have hmb:((a.map lineV).length+1) * 16≤140737488355328:=by rw [List.length_map,← hal];exact MM.out.2.1
     have hms:w.heap.size≤(wr.alloc (Obj.cells #[Value.iface 87 (.pointer (some ⟨F,0,none⟩))] 131)).heap.size:=by simp;omega
     have M2:=hide (And.intro hml (And.intro hmb hms))
     clear hal hab hml hmb hms
     go_wp2_with (at_builtin;refine wpList_append_lies _ rfl _ _ _ rfl w.heap.size 131 i0 _ 1 16 Tryz.und_exprs hi0 hz0 hz1 hz2 rfl (by omega) _ _ _ (by rfl) (HO.out.rpost.alloc _) ⟨wr.heap.size,0,none⟩ 1 1 [.iface 87 (.pointer (some ⟨F,0,none⟩))] (by rfl) (by rfl) (news_one _ _ _) MM.out.2.2.2 (by omega) M2.out.1 M2.out.2.1 M2.out.2.2 (wr.heap.size+1) (by simp) ?_;intro g' cap' w5 hown3 hgrow3 hat3 hlt3;obtain ⟨hO4,hK4⟩:=HO.out.addPost hwM hgrow3 hown3 hat3;have hb3:=Blk.kept (HO.out.blk.alloc _) (Kp.of_grownBy hgrow3) (fun e=>by have:=(HO.out.rpost.lt B e.symm).1;omega);have e19:w5.cell? ⟨B,19,none⟩=some post:=hb3.cell 19 (by have:=HO.out.size;simp [this]);have f3:∀ j,w5.frozen? ⟨B,j,none⟩=false:=fun j=>hb3.free j;clear hb3;have HO4:=hide hO4;have HK4:=hide hK4;clear hO4 hK4 hown3 hgrow3 hat3 hlt3)
     go_returns
     have h1:=HO4.out
     have h2:=HK.out.trans HK4.out
     rw [List.length_map] at h1 h2
     rw [← HAL.out] at h1 h2 ⊢
     exact ⟨rfl,_,_,h1,h2⟩
   · have hlt2:(a.length:Int) < (Ls.length:Int):=by simp at hgl;omega
     have h0:(0:Int)≤(a.length:Int):=by omega
     have hfo2:wr.ownsRow N 131 1 (.slice (some ⟨g0,0,none⟩) Ls.length cap0) Ls.length (Ls.map lineV):=by
       have h1:=ownsRow_kp HFo.out HK.out (fun g e=>by
         simp only [Value.ownBlock,Option.some.injEq] at e
         subst e
         rintro (e | e) <;> omega)
       rw [List.length_map] at h1
       exact h1
     have hel:wr.cell? ⟨g0,a.length,none⟩=some (lineV L):=by
       rw [hfo2.cellAt a.length (by omega),hab]
       simp
     unfold lineV at hel
     have hxs:(fileV F :: a.map lineV).length≤1000002:=by simp;simp at hgl;omega
     have hys:(a.map lineV).length≤1000002:=by simp;simp at hgl;omega
     clear hfo2
     have HAB:=hide hab
     clear hab
     go_wp2_with fail
     refine (order_line w.heap.size wr B cs pre post (fileV F :: a.map lineV) (a.map lineV) L HO.out hwM hxs hys).mono ?_
     rintro e w2 ⟨rfl,pre2,post2,hO2,hK2⟩
     have HO2:=hide hO2
     have HK2:=hide hK2
     clear hO2 hK2
     go_wp2_with fail
     go_roundg b.length
     case measure=>simp at hbl;omega
     case rel =>
       refine hide ⟨a++[L],b,pre2,post2,by rw [HAB.out];simp,rfl,?_,?_,HK.out.trans HK2.out⟩
       · simp
       · simpa using HO2.out
end
section
open Go.RowKit Go.Proofs
theorem comment_any (v:Value) (w:World):Calls Tryz.prog 96 #[v] w fun e w'=>e=.returned v∧w=w':=by
 go_enter Tryz.func96,Tryz.ntmps96
 go_wp2
 go_ret
 exact ⟨rfl,rfl⟩
theorem reverse_nil (w:World):Calls Tryz.prog 100 #[.slice none 0 0] w fun e w'=>e=.returned (.tuple #[])∧w=w':=by
 go_enter Tryz.func100,Tryz.ntmps100
 go_wp2
 go_loopg [2,3] 0 (fun k a b wr=>k=0∧a=.int .i64 0∧b=.int .i64 (-1)∧wr=w)
 case atStart=>exact ⟨rfl,rfl,rfl,rfl⟩
 case round =>
   obtain ⟨rfl,rfl,rfl,rfl⟩:=hrel
   go_wp2
   go_returns
   exact ⟨rfl,rfl⟩
def posV (a b c:Int):Value:=.agg #[.int .i64 a,.int .i64 b,.int .i64 c]
theorem span_line (w:World) (L:Nat) (cs:Array Value) (a1 a2 a3 b1 b2 b3:Int) (hL:Blk w L 136 cs)
   (h3:cs[3]?=some (.int .i64 a1)) (h4:cs[4]?=some (.int .i64 a2)) (h5:cs[5]?=some (.int .i64 a3)) (h8:cs[8]?=some (.int .i64 b1)) (h9:cs[9]?=some (.int .i64 b2)) (h10:cs[10]?=some (.int .i64 b3)) :
   Calls Tryz.prog 211 #[.pointer (some ⟨L,0,none⟩)] w fun e w'=>e=.returned (.tuple #[posV a1 a2 a3,posV b1 b2 b3])∧Below w.heap.size w w':=by
 have c3:=hL.cell 3 h3
 have c4:=hL.cell 4 h4
 have c5:=hL.cell 5 h5
 have c8:=hL.cell 8 h8
 have c9:=hL.cell 9 h9
 have c10:=hL.cell 10 h10
 have hlt:=hL.lt
 have n1:w.heap.size≠L:=by omega
 have n2:w.heap.size+1≠L:=by omega
 go_enter Tryz.func211,Tryz.ntmps211
 go_wp2
 go_region_held3 (fun w'=>w'.cell? ⟨L,3,none⟩=some (.int .i64 a1)∧w'.cell? ⟨L,4,none⟩=some (.int .i64 a2)∧w'.cell? ⟨L,5,none⟩=some (.int .i64 a3) ∧
    w'.cell? ⟨L,8,none⟩=some (.int .i64 b1)∧w'.cell? ⟨L,9,none⟩=some (.int .i64 b2)∧w'.cell? ⟨L,10,none⟩=some (.int .i64 b3)) (go_keep) (fail)
 all_goals go_wp2
 all_goals
   refine bodyPost_ret (v:=.tuple #[posV a1 a2 a3,posV b1 b2 b3]) (by simp [results,Tryz.results211,go_sem,posV]) rfl ⟨rfl,?_⟩
   exact (((Below.refl _ w).alloc (Nat.le_refl _) _).alloc (by simp) _).drew
theorem span_lineAt (N:Nat) (w:World) (T:List UInt8) (L:Nat) (t:Tk) (ts:List Tk) (h:LineAt N w T L t ts) :
   Calls Tryz.prog 211 #[.pointer (some ⟨L,0,none⟩)] w fun e w'=>(∃ a1 a2 a3 b1 b2 b3,e=.returned (.tuple #[posV a1 a2 a3,posV b1 b2 b3]))∧Below w.heap.size w w':=by
 obtain ⟨tv,hb,_⟩:=h
 exact (span_line w L _ _ _ _ _ _ _ hb rfl rfl rfl rfl rfl rfl).mono (fun e w' h=>⟨⟨_,_,_,_,_,_,h.1⟩,h.2⟩)
theorem Blk.set_id {w:World} {b:Nat} {t:TypeId} {cs:Array Value} (h:Blk w b t cs) {j:Nat} {v:Value} (hv:cs[j]?=some v):w.setCell ⟨b,j,none⟩ v=w:=by
 have hb:=h.out
 have he:(w.setCell ⟨b,j,none⟩ v).heap=w.heap:=by
   apply Array.ext_getElem?
   intro i
   by_cases hi:i=b
   · subst hi
     have h1:=(h.set j v).out
     rw [h1,hb]
     have:cs.setIfInBounds j v=cs:=by
       apply Array.ext_getElem?
       intro k
       by_cases hk:k=j
       · subst hk
         rw [Array.getElem?_setIfInBounds]
         have:=(Array.getElem?_eq_some_iff.1 hv).1
         simp [this]
         exact ((Array.getElem?_eq_some_iff.1 hv).2).symm
       · rw [Array.getElem?_setIfInBounds]
         simp [Ne.symm hk]
     rw [this]
   · exact Below.heap_setCell _ _ _ _ hi
 have:w.setCell ⟨b,j,none⟩ v={ w with heap:=(w.setCell ⟨b,j,none⟩ v).heap }:=rfl
 rw [this,he]
theorem LinesAt.at {N:Nat} {w:World} {T:List UInt8} {Ls:List Nat} {ls:List (Tk × List Tk)} (h:LinesAt N w T Ls ls):∀ L ∈ Ls,∃ t ts,LineAt N w T L t ts:=by
 induction h with
 | nil=>simp
 | cons h _ ih =>
   intro L hL
   rcases List.mem_cons.1 hL with rfl | hL
   · exact ⟨_,_,h⟩
   · exact ih L hL
theorem LineAt.below {N:Nat} {w w':World} {T:List UInt8} {L:Nat} {t:Tk} {ts:List Tk} (h:LineAt N w T L t ts) (k:Below w.heap.size w w'):LineAt N w' T L t ts:=by
 obtain ⟨tv,hb,ho⟩:=h
 exact ⟨tv,hb.kept (Kp.of_below (X:=fun _=>False) k) (fun h=>h),ownsRow_kp ho (Kp.of_below (X:=fun _=>False) k) (fun _ _ h=>h)⟩
theorem FileAt.below {N:Nat} {w w':World} {F:Nat} {nm:ByteArray} {xs:List Value} (h:FileAt N w F nm xs) (k:Below w.heap.size w w'):FileAt N w' F nm xs:=by
 obtain ⟨v,hb,ho⟩:=h
 exact ⟨v,hb.kept (Kp.of_below (X:=fun _=>False) k) (fun h=>h),ownsRow_kp ho (Kp.of_below (X:=fun _=>False) k) (fun _ _ h=>h)⟩
set_option maxHeartbeats 1000000 in
theorem span_file (N:Nat) (w:World) (T:List UInt8) (F:Nat) (nm:ByteArray) (Ls:List Nat) (hF:FileAt N w F nm (Ls.map lineV)) (hLs:∀ L ∈ Ls,∃ t ts,LineAt N w T L t ts) (hl0:0 < Ls.length) (hl:Ls.length≤1000000) :
   Calls Tryz.prog 209 #[.pointer (some ⟨F,0,none⟩)] w fun e w'=>(∃ a1 a2 a3 b1 b2 b3,e=.returned (.tuple #[posV a1 a2 a3,posV b1 b2 b3]))∧Below w.heap.size w w':=by
 obtain ⟨v,hFb,hFo⟩:=hF
 obtain ⟨g0,cap0,rfl⟩:∃ g cap,v=.slice (some ⟨g,0,none⟩) Ls.length cap:=by
   rcases hFo.2 with ⟨_,h2⟩ | ⟨g,cap,cur,e,_⟩
   · rw [List.length_map] at h2;omega
   · exact ⟨g,cap,by simpa using e⟩
 rw [List.length_map] at hFo
 have hg0:g0 < w.heap.size:=(hFo.lt g0 rfl).2
 obtain ⟨L1,hL1⟩:∃ L,Ls[0]?=some L:=⟨_,List.getElem?_eq_getElem hl0⟩
 obtain ⟨L2,hL2⟩:∃ L,Ls[Ls.length - 1]?=some L:=⟨_,List.getElem?_eq_getElem (by omega)⟩
 have e1:w.cell? ⟨g0,0,none⟩=some (lineV L1):=by rw [hFo.cellAt 0 (by omega)];simp [hL1]
 have e2:w.cell? ⟨g0,Ls.length - 1,none⟩=some (lineV L2):=by rw [hFo.cellAt _ (by omega)];simp [hL2]
 obtain ⟨t1,ts1,hl1⟩:=hLs L1 (List.mem_of_getElem? hL1)
 obtain ⟨t2,ts2,hl2⟩:=hLs L2 (List.mem_of_getElem? hL2)
 have e4:w.cell? ⟨F,4,none⟩=some (.slice (some ⟨g0,0,none⟩) Ls.length cap0):=hFb.cell 4 rfl
 have hFl:=hFb.lt
 unfold lineV at e1 e2
 obtain ⟨m,hm⟩:∃ m,Ls.length=m+1:=⟨Ls.length - 1,by omega⟩
 rw [show Ls.length - 1=m from by omega] at e2 hL2
 rw [hm] at e4 hl
 have hne:(((m:Int)+1) == 0)=false:=by simp only [beq_eq_false_iff_ne];omega
 have hwm:IntKind.i64.wrap (m:Int)=(m:Int):=by simp only [IntKind.wrap,IntKind.signed,IntKind.bits];simp;omega
 have h0:(0:Int)≤(m:Int):=by omega
 have h1:(m:Int) < (m:Int)+1:=by omega
 have h2:(0:Int) < (m:Int)+1:=by omega
 have HL1:=hide hl1
 have HL2:=hide hl2
 clear hl1 hl2 hLs hL1 hL2 hFb hFo
 go_enter Tryz.func209,Tryz.ntmps209
 go_wp2_with fail
 have hbA:Below w.heap.size w ((w.alloc (Obj.cells #[Value.int IntKind.i64 0,Value.int IntKind.i64 0,Value.int IntKind.i64 0] 134)).alloc (Obj.cells #[Value.int IntKind.i64 0,Value.int IntKind.i64 0,Value.int IntKind.i64 0] 134)) :=
   ((Below.refl _ w).alloc (Nat.le_refl _) _).alloc (by simp) _
 have p2:=(Blk.new w 134 #[Value.int IntKind.i64 0,Value.int IntKind.i64 0,Value.int IntKind.i64 0]).alloc (Obj.cells #[Value.int IntKind.i64 0,Value.int IntKind.i64 0,Value.int IntKind.i64 0] 134)
 have p3:=Blk.new (w.alloc (Obj.cells #[Value.int IntKind.i64 0,Value.int IntKind.i64 0,Value.int IntKind.i64 0] 134)) 134 #[Value.int IntKind.i64 0,Value.int IntKind.i64 0,Value.int IntKind.i64 0]
 rw [show (w.alloc (Obj.cells #[Value.int IntKind.i64 0,Value.int IntKind.i64 0,Value.int IntKind.i64 0] 134)).heap.size=w.heap.size+1 from by simp] at p3
 generalize ((w.alloc (Obj.cells #[Value.int IntKind.i64 0,Value.int IntKind.i64 0,Value.int IntKind.i64 0] 134)).alloc (Obj.cells #[Value.int IntKind.i64 0,Value.int IntKind.i64 0,Value.int IntKind.i64 0] 134))=W at hbA p2 p3 ⊢
 refine (span_lineAt N W T L1 t1 ts1 (HL1.out.below hbA)).mono ?_
 rintro e w2 ⟨⟨a1,a2,a3,b1,b2,b3,rfl⟩,hb2⟩
 have hb02:Below w.heap.size w w2:=hbA.trans (hb2.mono hbA.size)
 have d4:w2.cell? ⟨F,4,none⟩=some (.slice (some ⟨g0,0,none⟩) (m+1) cap0):=(hb02.cell (p:=⟨F,4,none⟩) hFl).trans e4
 have d2:w2.cell? ⟨g0,m,none⟩=some (.iface 92 (.pointer (some ⟨L2,0,none⟩))):=(hb02.cell (p:=⟨g0,m,none⟩) hg0).trans e2
 have p2':=p2.kept (Kp.of_below (X:=fun _=>False) hb2) (fun h=>h)
 have p3':=p3.kept (Kp.of_below (X:=fun _=>False) hb2) (fun h=>h)
 have r0:w2.cell? ⟨w.heap.size,0,none⟩=some (.int .i64 0):=p2'.cell 0 rfl
 have s0:w2.cell? ⟨w.heap.size+1,0,none⟩=some (.int .i64 0):=p3'.cell 0 rfl
 have r1:w2.cell? ⟨w.heap.size,1,none⟩=some (.int .i64 0):=p2'.cell 1 rfl
 have s1:w2.cell? ⟨w.heap.size+1,1,none⟩=some (.int .i64 0):=p3'.cell 1 rfl
 have r2:w2.cell? ⟨w.heap.size,2,none⟩=some (.int .i64 0):=p2'.cell 2 rfl
 have s2:w2.cell? ⟨w.heap.size+1,2,none⟩=some (.int .i64 0):=p3'.cell 2 rfl
 have fr:∀ j,w2.frozen? ⟨w.heap.size,j,none⟩=false:=fun j=>p2'.free j
 have fs:∀ j,w2.frozen? ⟨w.heap.size+1,j,none⟩=false:=fun j=>p3'.free j
 have m1:F≠w.heap.size:=by omega
 have m2:g0≠w.heap.size:=by omega
 have m3:F≠w.heap.size+1:=by omega
 have m4:g0≠w.heap.size+1:=by omega
 have HB:=hide hb02
 have P2:=hide p2'
 have P3:=hide p3'
 clear e1 e2 e4 hbA p2 p3 hb2 hb02 p2' p3'
 unfold posV
 go_wp2_with fail
 have q2:=((P2.out.set 0 (.int .i64 a1)).set 1 (.int .i64 a2)).set 2 (.int .i64 a3)
 have q3:Blk (((w2.setCell ⟨w.heap.size,0,none⟩ (.int .i64 a1)).setCell ⟨w.heap.size,1,none⟩ (.int .i64 a2)).setCell ⟨w.heap.size,2,none⟩ (.int .i64 a3)) (w.heap.size+1) 134 #[Value.int IntKind.i64 0,Value.int IntKind.i64 0,Value.int IntKind.i64 0] :=
   ((P3.out.set_other (by simp) _).set_other (by simp) _).set_other (by simp) _
 have hb3:Below w.heap.size w (((w2.setCell ⟨w.heap.size,0,none⟩ (.int .i64 a1)).setCell ⟨w.heap.size,1,none⟩ (.int .i64 a2)).setCell ⟨w.heap.size,2,none⟩ (.int .i64 a3)) :=
   ((HB.out.setCell (p:=⟨w.heap.size,0,none⟩) (Nat.le_refl _) _).setCell (p:=⟨w.heap.size,1,none⟩) (Nat.le_refl _) _).setCell (p:=⟨w.heap.size,2,none⟩) (Nat.le_refl _) _
 have d4':(((w2.setCell ⟨w.heap.size,0,none⟩ (.int .i64 a1)).setCell ⟨w.heap.size,1,none⟩ (.int .i64 a2)).setCell ⟨w.heap.size,2,none⟩ (.int .i64 a3)).cell? ⟨F,4,none⟩=some (.slice (some ⟨g0,0,none⟩) (m+1) cap0):=by
   simp [World.cell?_setCell_far,d4,m1.symm]
 have d2':(((w2.setCell ⟨w.heap.size,0,none⟩ (.int .i64 a1)).setCell ⟨w.heap.size,1,none⟩ (.int .i64 a2)).setCell ⟨w.heap.size,2,none⟩ (.int .i64 a3)).cell? ⟨g0,m,none⟩=some (.iface 92 (.pointer (some ⟨L2,0,none⟩))):=by
   simp [World.cell?_setCell_far,d2,m2.symm]
 clear d4 d2 r0 r1 r2 s0 s1 s2 fr fs
 generalize (((w2.setCell ⟨w.heap.size,0,none⟩ (.int .i64 a1)).setCell ⟨w.heap.size,1,none⟩ (.int .i64 a2)).setCell ⟨w.heap.size,2,none⟩ (.int .i64 a3))=W3 at q2 q3 hb3 d4' d2' ⊢
 have n1:=World.new_ne W3 _ d4'
 have m3':=m3.symm
 have m4':=m4.symm
 have Q2:=hide q2
 have Q3:=hide q3
 have HB3:=hide hb3
 have hls:LineAt N W3 T L2 t2 ts2:=HL2.out.below hb3
 have HLS:=hide hls
 have hpw:w.heap.size+1 < W3.heap.size:=q3.lt
 clear q2 q3 hb3 hls
 go_region_held3 (fun w'=>w'.cell? ⟨F,4,none⟩=some (.slice (some ⟨g0,0,none⟩) (m+1) cap0)∧w'.cell? ⟨g0,m,none⟩=some (.iface 92 (.pointer (some ⟨L2,0,none⟩)))) (go_keep)
   ((refine (span_lineAt N _ T L2 t2 ts2 (show LineAt N W3.drew T L2 t2 ts2 from HLS.out.below (Below.refl _ W3).drew)).mono ?_;rintro e w4 ⟨⟨c1,c2,c3,k1,k2,k3,rfl⟩,hb5⟩;have hb4:Below W3.heap.size W3 w4:=((Below.refl W3.heap.size W3).drew).trans hb5;have u4:w4.cell? ⟨F,4,none⟩=some (.slice (some ⟨g0,0,none⟩) (m+1) cap0):=(hb4.cell (p:=⟨F,4,none⟩) (show F < W3.heap.size by omega)).trans d4';have u2:w4.cell? ⟨g0,m,none⟩=some (.iface 92 (.pointer (some ⟨L2,0,none⟩))):=(hb4.cell (p:=⟨g0,m,none⟩) (show g0 < W3.heap.size by omega)).trans d2';have y2:=Q2.out.kept (Kp.of_below (X:=fun _=>False) hb4) (fun h=>h);have y3:=Q3.out.kept (Kp.of_below (X:=fun _=>False) hb4) (fun h=>h);have fs:∀ j,w4.frozen? ⟨w.heap.size+1,j,none⟩=false:=fun j=>y3.free j;have z0:w4.cell? ⟨w.heap.size+1,0,none⟩=some (.int .i64 0):=y3.cell 0 rfl;have z1:w4.cell? ⟨w.heap.size+1,1,none⟩=some (.int .i64 0):=y3.cell 1 rfl;have z2:w4.cell? ⟨w.heap.size+1,2,none⟩=some (.int .i64 0):=y3.cell 2 rfl;have Y2:=hide y2;have Y3:=hide y3;have HB4:=hide (HB3.out.trans (hb4.mono HB3.out.size));unfold posV;clear y2 y3 hb4 hb5))
 all_goals go_wp2
 have x3:=((Y3.out.set 0 (.int .i64 k1)).set 1 (.int .i64 k2)).set 2 (.int .i64 k3)
 have x2:=((Y2.out.set_other (a:=⟨w.heap.size+1,0,none⟩) (by simp) (.int .i64 k1)).set_other (a:=⟨w.heap.size+1,1,none⟩) (by simp) (.int .i64 k2)).set_other (a:=⟨w.heap.size+1,2,none⟩) (by simp) (.int .i64 k3)
 have hb6:Below w.heap.size w (((w4.setCell ⟨w.heap.size+1,0,none⟩ (.int .i64 k1)).setCell ⟨w.heap.size+1,1,none⟩ (.int .i64 k2)).setCell ⟨w.heap.size+1,2,none⟩ (.int .i64 k3)) :=
   ((HB4.out.setCell (p:=⟨w.heap.size+1,0,none⟩) (Nat.le_succ _) _).setCell (p:=⟨w.heap.size+1,1,none⟩) (Nat.le_succ _) _).setCell (p:=⟨w.heap.size+1,2,none⟩) (Nat.le_succ _) _
 clear u4 u2 fs z0 z1 z2
 generalize (((w4.setCell ⟨w.heap.size+1,0,none⟩ (.int .i64 k1)).setCell ⟨w.heap.size+1,1,none⟩ (.int .i64 k2)).setCell ⟨w.heap.size+1,2,none⟩ (.int .i64 k3))=W6 at x2 x3 hb6 ⊢
 have h60:W6.cell? ⟨w.heap.size,0,none⟩=some (.int .i64 a1):=x2.cell 0 rfl
 have l0:W6.cell? ⟨w.heap.size+1,0,none⟩=some (.int .i64 k1):=x3.cell 0 rfl
 have i0:W6.setCell ⟨w.heap.size,0,none⟩ (.int .i64 a1)=W6:=x2.set_id rfl
 have o0:W6.setCell ⟨w.heap.size+1,0,none⟩ (.int .i64 k1)=W6:=x3.set_id rfl
 have h61:W6.cell? ⟨w.heap.size,1,none⟩=some (.int .i64 a2):=x2.cell 1 rfl
 have l1:W6.cell? ⟨w.heap.size+1,1,none⟩=some (.int .i64 k2):=x3.cell 1 rfl
 have i1:W6.setCell ⟨w.heap.size,1,none⟩ (.int .i64 a2)=W6:=x2.set_id rfl
 have o1:W6.setCell ⟨w.heap.size+1,1,none⟩ (.int .i64 k2)=W6:=x3.set_id rfl
 have h62:W6.cell? ⟨w.heap.size,2,none⟩=some (.int .i64 a3):=x2.cell 2 rfl
 have l2:W6.cell? ⟨w.heap.size+1,2,none⟩=some (.int .i64 k3):=x3.cell 2 rfl
 have i2:W6.setCell ⟨w.heap.size,2,none⟩ (.int .i64 a3)=W6:=x2.set_id rfl
 have o2:W6.setCell ⟨w.heap.size+1,2,none⟩ (.int .i64 k3)=W6:=x3.set_id rfl
 have f2:∀ j,W6.frozen? ⟨w.heap.size,j,none⟩=false:=fun j=>x2.free j
 have f3:∀ j,W6.frozen? ⟨w.heap.size+1,j,none⟩=false:=fun j=>x3.free j
 go_region_held3 (fun w'=>w'.cell? ⟨w.heap.size,0,none⟩=some (.int .i64 a1)∧w'.cell? ⟨w.heap.size,1,none⟩=some (.int .i64 a2)∧w'.cell? ⟨w.heap.size,2,none⟩=some (.int .i64 a3) ∧
     w'.cell? ⟨w.heap.size+1,0,none⟩=some (.int .i64 k1)∧w'.cell? ⟨w.heap.size+1,1,none⟩=some (.int .i64 k2)∧w'.cell? ⟨w.heap.size+1,2,none⟩=some (.int .i64 k3)) (go_keep) (fail)
 all_goals go_wp2
 all_goals
   refine bodyPost_ret (v:=.tuple #[posV a1 a2 a3,posV k1 k2 k3]) (by simp [results,Tryz.results209,go_sem,posV,h60,h61,h62,l0,l1,l2]) rfl ⟨⟨_,_,_,_,_,_,rfl⟩,hb6.drew⟩
end
end Go.Proofs.YtifkpibjeamfkaaGreatFmt
