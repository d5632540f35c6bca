/-
  Tokens of all kinds; readToken and lex over them; the blocks that stay.
  (*input).parseLine.
  (*input).Error; comments appended.
-/
import Derived.Test.YtifkpibjeamfkaaGreatFmtZ16
import Derived.Deep.AppendLies
import Derived.Test.YtifkpibjeamfkaaGreatFmtZ10
import Derived.WalkLawsBesides
set_option linter.unusedVariables false
set_option linter.unusedSimpArgs false
set_option maxRecDepth 100000
namespace Go.Proofs.YtifkpibjeamfkaaGreatFmt
section
open Go.RowKit Go.Proofs
def isSuf (f:Nat→Int) (T:List UInt8) (s:Nat):Prop:=noSp f T (lineS T s) (s - lineS T s)
inductive TokG (f:Nat→Int) (T:List UInt8) (p:Nat):Tk→Prop
 | eof (hp:p≤T.length) (hw:Ws T p T.length):TokG f T p ⟨-1,T.length,T.length⟩
 | pun (c s:Nat) (hc:c=10∨c=40∨c=41∨c=91∨c=93∨c=44) (hp:p≤s) (hs:s < T.length) (hw:Ws T p s) (hch:ch T s=c):TokG f T p ⟨(c:Nat),s,s+1⟩
 | id (s e:Nat) (hp:p≤s) (hse:s < e) (he:e≤T.length) (hw:Ws T p s) (hid:∀ i,s≤i→i < e→idB (ch T i)=true∧noCom T i) (h1:ch T s≠34) (h2:ch T s≠96) (hend:idEnd T e):TokG f T p ⟨-3,s,e⟩
 | com (s e:Nat) (hp:p≤s) (hw:Ws T p s) (hb:ComB T s e) (hn:¬ isSuf f T s):TokG f T p ⟨-5,s,e⟩
 | suf (s e:Nat) (hp:p≤s) (hw:Ws T p s) (hb:ComB T s e) (hn:isSuf f T s):TokG f T p ⟨-2,s,e⟩
theorem TokG.bd {f:Nat→Int} {T:List UInt8} {p:Nat} {t:Tk} (h:TokG f T p t):p≤t.s∧t.s≤t.e∧t.e≤T.length:=by
 cases h with
 | eof hp _=>exact ⟨hp,Nat.le_refl _,Nat.le_refl _⟩
 | pun c s _ hp hs _ _=>exact ⟨hp,Nat.le_succ _,hs⟩
 | id s e hp hse he _ _ _ _ _=>exact ⟨hp,Nat.le_of_lt hse,he⟩
 | com s e hp _ hb _=>exact ⟨hp,by have:=hb.h2;show s≤e;omega,hb.he⟩
 | suf s e hp _ hb _=>exact ⟨hp,by have:=hb.h2;show s≤e;omega,hb.he⟩
def tkTxt (T:List UInt8) (t:Tk):List UInt8:=if t.k=-5∨t.k=-2 then seg T t.s (t.e - 1) else seg T t.s t.e
def AtG (w:World) (σ:Lx) (t:Tk):Prop:=∃ q ts,IsSl ts∧LxAt w (σ.lexed q ts t.k t.s t.e (mkS (tkTxt σ.T t)))
theorem AtG.keptU {N:Nat} {S:Nat→TypeId→Prop} {w w':World} {σ:Lx} {t:Tk} (h:AtG w σ t) (k:Ku N S w w') (h1:¬ S σ.B 155) (h2:¬ S σ.D 5):AtG w' σ t:=by
 obtain ⟨q,ts,hs,hx⟩:=h
 exact ⟨q,ts,hs,hx.keptU k h1 h2⟩
def PsAt (N:Nat) (w:World) (σ:Lx) (t:Tk) (P:Nat→Prop):Prop :=
 ∃ com cs,AtG w { σ with com:=com } t∧CmAt N w com cs∧cs.length≤t.e∧(∀ c ∈ cs,c.suf=true)∧∀ g,com.ownBlock=some g→¬ P g
def LexP (P:Nat→Prop):Nat→TypeId→Prop:=fun k t=>t=155∨(t=194∧¬ P k)
theorem PsAt.mono {N:Nat} {w:World} {σ:Lx} {t:Tk} {P Q:Nat→Prop} (h:PsAt N w σ t P) (hq:∀ k,Q k→P k):PsAt N w σ t Q:=by
 obtain ⟨com,cs,h1,h2,h3,h4,h5⟩:=h
 exact ⟨com,cs,h1,h2,h3,h4,fun g e hQ=>h5 g e (hq g hQ)⟩
theorem PsAt.future {N:Nat} {w:World} {σ:Lx} {t:Tk} {P:Nat→Prop} (h:PsAt N w σ t P):PsAt N w σ t (fun k=>P k∨w.heap.size≤k):=by
 obtain ⟨com,cs,h1,h2,h3,h4,h5⟩:=h
 exact ⟨com,cs,h1,h2,h3,h4,fun g e hQ=>hQ.elim (h5 g e) (fun hg=>by have:=(h2.lt g e).2;omega)⟩
theorem PsAt.keptU {N M:Nat} {S:Nat→TypeId→Prop} {w w':World} {σ:Lx} {t:Tk} {P:Nat→Prop} (h:PsAt N w σ t P) (k:Ku M S w w') (h1:¬ S σ.B 155) (h2:¬ S σ.D 5) (h3:∀ g,S g 194→P g):PsAt N w' σ t P:=by
 obtain ⟨com,cs,a1,a2,a3,a4,a5⟩:=h
 exact ⟨com,cs,a1.keptU k h1 h2,a2.keptU k (fun g e hs=>a5 g e (h3 g hs)),a3,a4,a5⟩
theorem PsAt.kind {N:Nat} {w:World} {σ:Lx} {t:Tk} {P:Nat→Prop} (h:PsAt N w σ t P):w.cell? ⟨σ.B,4,none⟩=some (.int .i64 t.k):=by
 obtain ⟨com,cs,⟨q,ts,_,hx⟩,_⟩:=h
 exact hx.c4
theorem PsAt.blk {N:Nat} {w:World} {σ:Lx} {t:Tk} {P:Nat→Prop} (h:PsAt N w σ t P):∃ cs,Blk w σ.B 155 cs∧cs[16]?=some σ.file∧cs[17]?=some σ.perr∧cs[0]?=some σ.fn:=by
 obtain ⟨com,cs,⟨q,ts,_,hx⟩,_⟩:=h
 exact ⟨_,hx.blk,rfl,rfl,rfl⟩
theorem PsAt.lt {N:Nat} {w:World} {σ:Lx} {t:Tk} {P:Nat→Prop} (h:PsAt N w σ t P):σ.B < w.heap.size:=by
 obtain ⟨cs,hb,_⟩:=h.blk
 exact hb.lt
theorem tkTxt_word (T:List UInt8) (t:Tk) (h5:t.k≠-5) (h2:t.k≠-2):tkTxt T t=seg T t.s t.e:=by
 unfold tkTxt;rw [if_neg (by rintro (h | h) <;> contradiction)]
structure Tabs (N:Nat) (w:World) (σ:Lx) (f:Nat→Int):Prop where
 pr:PrTab w
 sp:OpTab w 2 f
 hp:0 < N
 hs:2 < N
 hN:N≤σ.B
 hT:σ.T.length≤1000000
theorem Tabs.below {N:Nat} {w w':World} {σ:Lx} {f:Nat→Int} (h:Tabs N w σ f) (k:Below N w w'):Tabs N w' σ f :=
 ⟨h.pr.below k h.hp,h.sp.below k h.hs,h.hp,h.hs,h.hN,h.hT⟩
theorem readToken_g (N:Nat) (σ:Lx) (w:World) (t:Tk) (P:Nat→Prop) (f:Nat→Int) (cs:List Cmt) (h:LxAt w σ) (hts:IsSl σ.ts) (hcm:CmAt N w σ.com cs) (hcl:cs.length≤σ.p) (hsf:∀ c ∈ cs,c.suf=true) (hap:∀ g,σ.com.ownBlock=some g→¬ P g)
   (ht:TokG f σ.T σ.p t) (hP:∀ k,P k→k < w.heap.size) (hT:Tabs N w σ f) :
   Calls Tryz.prog 59 #[.pointer (some ⟨σ.B,0,none⟩)] w fun e w'=>e=.returned (.tuple #[])∧PsAt N w' σ t P∧Ku N (LexP P) w w':=by
 have hpl:σ.p≤t.e:=by have:=ht.bd;omega
 have hBN:∀ k,k=σ.B→N≤k:=fun k e=>by subst e;exact hT.hN
 have hwN:N≤w.heap.size:=Nat.le_trans hT.hN (Nat.le_of_lt h.blk.lt)
 have kin:∀ {w':World},Kp (fun i=>i=σ.B) w w'→Ku N (LexP P) w w':=fun {w'} hk=>Ku.of_kp hk hwN hBN (fun k ds u fz e hu=>by
   subst e
   have hb:=h.blk.out
   rw [hu] at hb
   injection hb with hb
   injection hb with _ hb
   exact Or.inl hb)
 have hcB:∀ g,σ.com.ownBlock=some g→g≠σ.B:=fun g hg e=>by subst e;exact hcm.blockNe h.blk (by decide) hg
 have fin:∀ e w',Lexed w σ t.k t.s t.e (mkS (tkTxt σ.T t)) e w'→e=.returned (.tuple #[])∧PsAt N w' σ t P∧Ku N (LexP P) w w':=by
   rintro e w' ⟨q,ts,he,hs,hl,hk⟩
   exact ⟨he,⟨σ.com,cs,⟨q,ts,hs,hl⟩,⟨ownsRow_kp hcm.1 hk (fun g e=>hcB g e),hcm.2⟩,Nat.le_trans hcl hpl,hsf,hap⟩,kin hk⟩
 have hpB:0 < σ.B:=by have:=hT.hp;have:=hT.hN;omega
 have hsB:2 < σ.B:=by have:=hT.hs;have:=hT.hN;omega
 cases ht with
 | eof hp hw =>
   refine (readToken_eof σ w h hts hw).mono (fun e w' x=>fin e w' ?_)
   rw [tkTxt_word _ _ (show (-1:Int)≠-5 by decide) (show (-1:Int)≠-2 by decide)];exact x
 | pun c s hc hp hs hw hch =>
   rcases hc with rfl | rfl | rfl | rfl | rfl | rfl
   · refine (readToken_p10 σ w s h hts hp hs hw hch).mono (fun e w' x=>fin e w' ?_)
     rw [tkTxt_word _ _ (show ((10:Nat):Int)≠-5 by decide) (show ((10:Nat):Int)≠-2 by decide)];exact x
   · refine (readToken_p40 σ w s h hts hp hs hw hch).mono (fun e w' x=>fin e w' ?_)
     rw [tkTxt_word _ _ (show ((40:Nat):Int)≠-5 by decide) (show ((40:Nat):Int)≠-2 by decide)];exact x
   · refine (readToken_p41 σ w s h hts hp hs hw hch).mono (fun e w' x=>fin e w' ?_)
     rw [tkTxt_word _ _ (show ((41:Nat):Int)≠-5 by decide) (show ((41:Nat):Int)≠-2 by decide)];exact x
   · refine (readToken_p91 σ w s h hts hp hs hw hch).mono (fun e w' x=>fin e w' ?_)
     rw [tkTxt_word _ _ (show ((91:Nat):Int)≠-5 by decide) (show ((91:Nat):Int)≠-2 by decide)];exact x
   · refine (readToken_p93 σ w s h hts hp hs hw hch).mono (fun e w' x=>fin e w' ?_)
     rw [tkTxt_word _ _ (show ((93:Nat):Int)≠-5 by decide) (show ((93:Nat):Int)≠-2 by decide)];exact x
   · refine (readToken_p44 σ w s h hts hp hs hw hch).mono (fun e w' x=>fin e w' ?_)
     rw [tkTxt_word _ _ (show ((44:Nat):Int)≠-5 by decide) (show ((44:Nat):Int)≠-2 by decide)];exact x
 | id s e hp hse he hw hid h1 h2 hend =>
   refine (readToken_id σ w s e h hts hp hse he hw hid h1 h2 hend hT.pr hpB).mono (fun e w' x=>fin e w' ?_)
   rw [tkTxt_word _ _ (show (-3:Int)≠-5 by decide) (show (-3:Int)≠-2 by decide)];exact x
 | com s e hp hw hb hn =>
   have hle:=lineS_le σ.T s
   refine (readToken_comN σ w s e f none 0 0 h hts hp hw hb hT.sp hsB (fun W hX hf=>?_)).mono (fun e w' x=>fin e w' ?_)
   · refine trimSpace_openN σ.D σ.C (lineS σ.T s) (s - lineS σ.T s) (σ.C - lineS σ.T s) σ.T W f hX (by have:=hb.he;have:=hb.h2;omega) (by have:=hb.he;have:=hb.h2;have:=h.hn;omega) (by have:=h.hC;omega) hf (fun j hj e=>hn ⟨j,hj,e⟩) _ (fun _=>rfl)
   · simp only [tkTxt,true_or,if_true];exact x
 | suf s e hp hw hb hn =>
   have hle:=lineS_le σ.T s
   obtain ⟨lo,hi,g1,g2,g3,g4,g5,g6⟩:=noSp_ends hn
   refine (readToken_comS σ w s e f (some ⟨σ.D,lineS σ.T s+lo,none⟩) (hi - lo) (σ.C - lineS σ.T s - lo) h hts hp hw hb hT.sp hsB N hT.hN cs hcm (by have:=h.hp;have:=hT.hT;omega) hT.hT (fun W hX hf=>?_)).mono ?_
   · exact trimSpace_openS σ.D σ.C (lineS σ.T s) (s - lineS σ.T s) (σ.C - lineS σ.T s) lo hi σ.T W f hX (by have:=hb.he;have:=hb.h2;omega) (by have:=hb.he;have:=hb.h2;have:=h.hn;omega) (by have:=h.hC;omega) hf g1 g2 g3 g4 g5 g6
   · rintro en w' ⟨q,ts,com',he,hs,hl,hc',hk,hfr⟩
     have hcg:∀ g,σ.com.ownBlock=some g→g < w.heap.size:=fun g e=>(hcm.lt g e).2
     refine ⟨he,⟨com',_,⟨q,ts,hs,?_⟩,hc',?_,?_,?_⟩,hk.mono ?_⟩
     · simp only [tkTxt,or_true,if_true];exact hl
     · have:=hb.h2
       simp only [List.length_append,List.length_cons,List.length_nil]
       omega
     · intro c hc
       rcases List.mem_append.1 hc with hc | hc
       · exact hsf c hc
       · obtain rfl:=List.mem_singleton.1 hc
         rfl
     · intro g hg hPg
       rcases hfr g hg with e | e
       · exact hap g e hPg
       · have:=hP g hPg;omega
     · rintro i u (e | ⟨e1,e2⟩)
       · exact Or.inl e
       · exact Or.inr ⟨e1,hap i e2⟩
def Tk.valG (T:List UInt8) (t:Tk):Value :=
 .agg #[.int .i64 t.k,.int .i64 (lineAt T t.s:Nat),.int .i64 (colAt T t.s:Nat),.int .i64 (t.s:Nat),.int .i64 (lineAt T t.e:Nat),.int .i64 (colAt T t.e:Nat),.int .i64 (t.e:Nat),.string (mkS (tkTxt T t))]
def Tk.cellsG (t:Tk) (T:List UInt8):Array Value:=#[.int .i64 t.k,.int .i64 (lineAt T t.s:Nat),.int .i64 (colAt T t.s:Nat),.int .i64 (t.s:Nat),.int .i64 (lineAt T t.e:Nat),.int .i64 (colAt T t.e:Nat),.int .i64 (t.e:Nat),.string (mkS (tkTxt T t))]
set_option maxHeartbeats 1000000 in
theorem lex_g (N:Nat) (σ:Lx) (w:World) (t t':Tk) (P:Nat→Prop) (f:Nat→Int) (h:PsAt N w σ t P) (hP:∀ k,P k→k < w.heap.size) (hT:Tabs N w σ f) (ht:TokG f σ.T t.e t') :
   Calls Tryz.prog 95 #[.pointer (some ⟨σ.B,0,none⟩)] w fun e w'=>e=.returned (t.valG σ.T)∧PsAt N w' σ t' P∧Ku N (LexP P) w w':=by
 obtain ⟨com,cs,⟨q,ts,hsl,hx⟩,hcm,hcl,hsf,hap⟩:=h
 have h4:=hx.c4
 have h5:=hx.c5
 have h6:=hx.c6
 have h7:=hx.c7
 have h8:=hx.c8
 have h9:=hx.c9
 have h10:=hx.c10
 have h11:=hx.c11
 simp only [Lx.lexed] at h4 h5 h6 h7 h8 h9 h10 h11
 have hlt:σ.B < w.heap.size:=hx.blk.lt
 have hne:w.heap.size≠σ.B:=by omega
 have hne2:w.heap.size+1≠σ.B:=by omega
 have hne3:σ.B≠w.heap.size:=by omega
 have hne4:σ.B≠w.heap.size+1:=by omega
 have hNs:N≤w.heap.size:=by have:=hT.hN;omega
 have HX:=hide hx
 have HT:=hide hT
 have HTK:=hide ht
 have HCM:=hide (And.intro hcm (And.intro hcl (And.intro hsf (And.intro hap hP))))
 clear hT ht hx hcm hcl hsf hap hP
 go_enter Tryz.func95,Tryz.ntmps95
 go_wp2_with fail
 have k1:Ku N (fun _ _=>False) w ((w.alloc (Obj.cells TkZero 153)).alloc (Obj.cells (t.cellsG σ.T) 153)):=((Ku.refl _ _ _).alloc hNs _).alloc hNs _
 have b2:=(Blk.new w 153 TkZero).alloc (Obj.cells (t.cellsG σ.T) 153)
 have b3:=Blk.new (w.alloc (Obj.cells TkZero 153)) 153 (t.cellsG σ.T)
 rw [show (w.alloc (Obj.cells TkZero 153)).heap.size=w.heap.size+1 from by simp] at b3
 change Calls _ _ _ ((w.alloc (Obj.cells TkZero 153)).alloc (Obj.cells (t.cellsG σ.T) 153)) _
 generalize ((w.alloc (Obj.cells TkZero 153)).alloc (Obj.cells (t.cellsG σ.T) 153))=W at k1 b2 b3 ⊢
 have hrd:=readToken_g N _ W t' P f cs (HX.out.keptU k1 id id) hsl (HCM.out.1.keptU k1 (fun _ _=>id)) HCM.out.2.1 HCM.out.2.2.1 HCM.out.2.2.2.1 HTK.out (fun k hk=>Nat.lt_of_lt_of_le (HCM.out.2.2.2.2 k hk) k1.size) (show Tabs N W ((({ σ with com:=com }:Lx).lexed q ts t.k t.s t.e (mkS (tkTxt σ.T t)))) f from ⟨HT.out.pr.below k1.below HT.out.hp,HT.out.sp.below k1.below HT.out.hs,HT.out.hp,HT.out.hs,HT.out.hN,HT.out.hT⟩)
 refine hrd.mono ?_
 rintro e w2 ⟨rfl,hat,hk2⟩
 have d2:=b2.keptU hk2 (by simp [LexP])
 have d3:=b3.keptU hk2 (by simp [LexP])
 have k2:Ku N (LexP P) w w2:=(k1.mono (fun _ _ h=>h.elim)).trans hk2
 have r0:=d3.cell 0 rfl
 have z0:=d2.cell 0 rfl
 have r1:=d3.cell 1 rfl
 have z1:=d2.cell 1 rfl
 have r2:=d3.cell 2 rfl
 have z2:=d2.cell 2 rfl
 have r3:=d3.cell 3 rfl
 have z3:=d2.cell 3 rfl
 have r4:=d3.cell 4 rfl
 have z4:=d2.cell 4 rfl
 have r5:=d3.cell 5 rfl
 have z5:=d2.cell 5 rfl
 have r6:=d3.cell 6 rfl
 have z6:=d2.cell 6 rfl
 have r7:=d3.cell 7 rfl
 have z7:=d2.cell 7 rfl
 simp only [Tk.cellsG,TkZero,List.getElem_toArray,List.getElem_cons_zero,List.getElem_cons_succ] at r0 r1 r2 r3 r4 r5 r6 r7 z0 z1 z2 z3 z4 z5 z6 z7
 have f2:=fun j=>d2.free j
 have hlt2:=d2.lt
 have hlt3:=d3.lt
 have D2:=hide d2
 have HA:=hide hat
 have K2:=hide k2
 clear d2 d3 b2 b3 k1 hrd hat hk2 k2 h4 h5 h6 h7 h8 h9 h10 h11
 go_wp2
 refine bodyPost_ret (v:=t.valG σ.T) (by simp [results,Tryz.results95,go_sem,z0,z1,z2,z3,z4,z5,z6,z7,Tk.valG]) rfl ⟨rfl,?_,?_⟩
 · refine PsAt.keptU (M:=N) (S:=fun _ u=>u=153) (σ:=σ) (show PsAt N w2 σ t' P from HA.out) ?_ (by decide) (by decide) (fun g e=>absurd e (by decide))
   repeat (refine Ku.set_blk ?_ hNs D2.out rfl)
   exact Ku.refl _ _ _
 · repeat (refine Ku.set_new ?_ hNs (Nat.le_refl _))
   exact K2.out
end
section
open Go.RowKit Go.Proofs
def ChainG (f:Nat→Int) (T:List UInt8):Tk→List Tk→Prop
 | _,[]=>True
 | t,u :: us=>TokG f T t.e u∧ChainG f T u us
theorem ChainG.mid {f:Nat→Int} {T:List UInt8} {t c d:Tk} {a b:List Tk} (h:ChainG f T t (a++c :: d :: b)):TokG f T c.e d:=by
 induction a generalizing t with
 | nil=>exact h.2.1
 | cons x a ih=>exact ih h.2
theorem ChainG.pre {f:Nat→Int} {T:List UInt8} {t:Tk} {a b:List Tk} (h:ChainG f T t (a++b)):ChainG f T t a:=by
 induction a generalizing t with
 | nil=>exact True.intro
 | cons x a ih=>exact ⟨h.1,ih h.2⟩
theorem ChainG.suf {f:Nat→Int} {T:List UInt8} {t c:Tk} {a b:List Tk} (h:ChainG f T t (a++c :: b)):ChainG f T c b:=by
 induction a generalizing t with
 | nil=>exact h.2
 | cons x a ih=>exact ih h.2
def EolK (t:Tk):Prop:=t.k=10∨t.k=-2
structure NonE (t:Tk):Prop where
 h1:t.k≠10
 h2:t.k≠-2
 h3:t.k≠-1
theorem isEOL_yes (t:Tk) (ht:EolK t) (w:World):Calls Tryz.prog 132 #[.int .i64 t.k] w fun e w'=>e=.returned (.bool true)∧w=w':=by
 rcases ht with h | h
 · rw [h];exact isEOL_nl w
 · rw [h]
   go_enter Tryz.func132,Tryz.ntmps132
   go_wp2
   go_ret
   exact ⟨rfl,rfl⟩
theorem isEOL_no' (t:Tk) (ht:NonE t) (w:World):Calls Tryz.prog 132 #[.int .i64 t.k] w fun e w'=>e=.returned (.bool false)∧w=w' :=
 isEOL_no t.k w (by rw [beq_eq_false_iff_ne];exact ht.h3) (by rw [beq_eq_false_iff_ne];exact ht.h2) (by rw [beq_eq_false_iff_ne];exact ht.h1)
def tvals (T:List UInt8) (ts:List Tk):List Value:=ts.map fun u=>.string (mkS (tkTxt T u))
def LnAt (N:Nat) (w:World) (T:List UInt8) (L:Nat) (bv:Value) (inb:Bool) (t:Tk) (ts:List Tk):Prop :=
 ∃ tv,Blk w L 136 #[bv,nilS,nilS,.int .i64 (lineAt T t.s:Nat),.int .i64 (colAt T t.s:Nat),.int .i64 (t.s:Nat),tv,.bool inb,
     .int .i64 (lineAt T (lastTk t ts).e:Nat),.int .i64 (colAt T (lastTk t ts).e:Nat),.int .i64 ((lastTk t ts).e:Nat)] ∧
   w.ownsRow N 9 1 tv (ts.length+1) (tvals T (t :: ts))
theorem LnAt.keptU {N M:Nat} {S:Nat→TypeId→Prop} {w w':World} {T:List UInt8} {L:Nat} {bv:Value} {inb:Bool} {t:Tk} {ts:List Tk} (h:LnAt N w T L bv inb t ts) (k:Ku M S w w') (h1:¬ S L 136) (h2:∀ g,¬ S g 9):LnAt N w' T L bv inb t ts:=by
 obtain ⟨v,hb,ho⟩:=h
 exact ⟨v,hb.keptU k h1,ownsRow_keptU ho k (fun g _=>h2 g)⟩
theorem LnAt.lt {N:Nat} {w:World} {T:List UInt8} {L:Nat} {bv:Value} {inb:Bool} {t:Tk} {ts:List Tk} (h:LnAt N w T L bv inb t ts):L < w.heap.size:=by
 obtain ⟨v,hb,ho⟩:=h
 exact hb.lt
def PLInv (N:Nat) (σ:Lx) (w:World) (P:Nat→Prop) (t:Tk) (ts:List Tk) (nl tn:Tk) (b3 b4:Nat) (k:Nat) (v6:Value) (wr:World):Prop :=
 ∃ pre rest c cs,ts=pre++rest∧rest.length=k∧rest++[nl,tn]=c :: cs∧PsAt N wr σ c P∧Blk wr b3 134 (Tk.pos σ.T t.s)∧Blk wr b4 134 (Tk.pos σ.T (lastTk t pre).e) ∧
   wr.ownsRow w.heap.size 9 1 v6 (pre.length+1) (tvals σ.T (t :: pre))∧Ku N (LexP P) w wr
theorem pl_append {N:Nat} {w2 w3:World} {T:List UInt8} {c:Tk} {v:Value} {n:Nat} {xs:List Value} {b4:Nat} {p4:Array Value} {s:ByteArray} (hown:w2.ownsRow N 9 1 v n xs) (hN:N≤w2.heap.size)
   (hg:((w2.alloc (Obj.cells (c.cellsG T) 153)).alloc (Obj.cells #[Value.string s] 9)).grownBy w3 v.ownBlock) (h4:Blk w2 b4 134 p4) :
   Ku N (fun _ u=>u=9) w2 w3∧Blk w3 w2.heap.size 153 (c.cellsG T)∧Blk w3 b4 134 p4:=by
 have k0:Ku N (fun _ u=>u=9) w2 ((w2.alloc (Obj.cells (c.cellsG T) 153)).alloc (Obj.cells #[Value.string s] 9)):=((Ku.refl _ _ _).alloc hN _).alloc hN _
 have k1:Ku N (fun _ u=>u=9) _ w3:=Ku.of_append ((hown.alloc (Obj.cells (c.cellsG T) 153)).alloc (Obj.cells #[Value.string s] 9)) hg (by simp;omega) (fun _ _=>rfl)
 exact ⟨k0.trans k1,((Blk.new w2 153 (c.cellsG T)).alloc _).keptU k1 (by decide),((h4.alloc _).alloc _).keptU k1 (by decide)⟩
set_option maxHeartbeats 2000000 in
theorem parseLine_g (N:Nat) (σ:Lx) (w:World) (P:Nat→Prop) (f:Nat→Int) (t:Tk) (ts:List Tk) (nl tn:Tk) (h:PsAt N w σ t P) (hP:∀ k,P k→k < w.heap.size) (hT:Tabs N w σ f) (hch:ChainG f σ.T t (ts++[nl,tn])) (ht0:NonE t) (hw:∀ u ∈ ts,NonE u) (hnl:EolK nl) (hlen:ts.length≤1000000) :
   Calls Tryz.prog 163 #[.pointer (some ⟨σ.B,0,none⟩)] w fun e w'=>∃ L,e=.returned (.pointer (some ⟨L,0,none⟩))∧w.heap.size≤L∧PsAt N w' σ tn P∧Ku N (LexP P) w w'∧LnAt N w' σ.T L nilS true t ts:=by
 obtain ⟨i0,hi0,hz0,hz1,hz2⟩:=info_parts Tryz.infoStr
 obtain ⟨t1,trest,hts⟩:∃ t1 trest,ts++[nl,tn]=t1 :: trest:=by
   cases ts with
   | nil=>exact ⟨_,_,rfl⟩
   | cons a b=>exact ⟨_,_,rfl⟩
 have hc0:TokG f σ.T t.e t1:=by rw [hts] at hch;exact hch.1
 have hBw:=h.lt
 have hNw:N≤w.heap.size:=by have:=hT.hN;omega
 have H:=hide h
 have HP:=hide hP
 have HT:=hide hT
 have HC:=hide hch
 have HC0:=hide hc0
 have HT0:=hide ht0
 have HW:=hide hw
 have HTS:=hide hts
 have HNL:=hide hnl
 clear h hP hT hch hc0 ht0 hw hts hnl
 go_enter Tryz.func163,Tryz.ntmps163
 go_wp2_with fail
 refine (lex_g N σ _ t t1 P f H.out HP.out HT.out HC0.out).mono ?_
 rintro e w1 ⟨rfl,hat1,hk1⟩
 have A1:=hide hat1
 have K1:=hide hk1
 clear hat1 hk1
 unfold Tk.valG
 go_wp2_with fail
 refine (isEOL_no' t HT0.out _).mono ?_
 rintro e w' ⟨rfl,rfl⟩
 go_wp2_with fail
 have hs1:w.heap.size≤w1.heap.size:=K1.out.size
 have hN1:N≤w1.heap.size:=by omega
 have c1:=Blk.new w1 153 (t.cellsG σ.T)
 have c2:=Blk.new (w1.alloc (Obj.cells (t.cellsG σ.T) 153)) 134 (Tk.pos σ.T t.s)
 have c3:=Blk.new ((w1.alloc (Obj.cells (t.cellsG σ.T) 153)).alloc (Obj.cells (Tk.pos σ.T t.s) 134)) 134 (Tk.pos σ.T t.e)
 have c2':=(c2.alloc (Obj.cells (Tk.pos σ.T t.e) 134)).alloc (Obj.cells #[Value.string (mkS (tkTxt σ.T t))] 9)
 have c3':=c3.alloc (Obj.cells #[Value.string (mkS (tkTxt σ.T t))] 9)
 have c4':((((w1.alloc (Obj.cells (t.cellsG σ.T) 153)).alloc (Obj.cells (Tk.pos σ.T t.s) 134)).alloc (Obj.cells (Tk.pos σ.T t.e) 134)).alloc (Obj.cells #[Value.string (mkS (tkTxt σ.T t))] 9)).ownsRow w.heap.size 9 1 (.slice (some ⟨w1.heap.size+1+1+1,0,none⟩) 1 1) 1 [Value.string (mkS (tkTxt σ.T t))]:=by
   have:=owns_new (((w1.alloc (Obj.cells (t.cellsG σ.T) 153)).alloc (Obj.cells (Tk.pos σ.T t.s) 134)).alloc (Obj.cells (Tk.pos σ.T t.e) 134)) w.heap.size 9 #[Value.string (mkS (tkTxt σ.T t))] (by simp;omega) (by simp [maxLen])
   simpa using this
 have kk:Ku N (fun _ _=>False) w1 ((((w1.alloc (Obj.cells (t.cellsG σ.T) 153)).alloc (Obj.cells (Tk.pos σ.T t.s) 134)).alloc (Obj.cells (Tk.pos σ.T t.e) 134)).alloc (Obj.cells #[Value.string (mkS (tkTxt σ.T t))] 9)):=((((Ku.refl _ _ _).alloc hN1 _).alloc hN1 _).alloc hN1 _).alloc hN1 _
 have INV:Hid (PLInv N σ w P t ts nl tn (w1.heap.size+1) (w1.heap.size+1+1) ts.length (.slice (some ⟨w1.heap.size+1+1+1,0,none⟩) 1 1) ((((w1.alloc (Obj.cells (t.cellsG σ.T) 153)).alloc (Obj.cells (Tk.pos σ.T t.s) 134)).alloc (Obj.cells (Tk.pos σ.T t.e) 134)).alloc (Obj.cells #[Value.string (mkS (tkTxt σ.T t))] 9))):=by
   refine hide ⟨[],ts,t1,trest,rfl,rfl,HTS.out,A1.out.keptU kk id id (fun _ h=>h.elim),?_,?_,c4',?_⟩
   · simpa using c2'
   · simpa [lastTk] using c3'
   · exact K1.out.trans (kk.mono (fun _ _ h=>h.elim))
 change Code.wp _ _ _ _ ((((w1.alloc (Obj.cells (t.cellsG σ.T) 153)).alloc (Obj.cells (Tk.pos σ.T t.s) 134)).alloc (Obj.cells (Tk.pos σ.T t.e) 134)).alloc (Obj.cells #[Value.string (mkS (tkTxt σ.T t))] 9))
 generalize ((((w1.alloc (Obj.cells (t.cellsG σ.T) 153)).alloc (Obj.cells (Tk.pos σ.T t.s) 134)).alloc (Obj.cells (Tk.pos σ.T t.e) 134)).alloc (Obj.cells #[Value.string (mkS (tkTxt σ.T t))] 9))=W at INV ⊢
 clear c1 c2 c3 c2' c3' c4' kk
 have hb3w:w.heap.size≤w1.heap.size+1:=by omega
 generalize w1.heap.size+1=b3 at INV hb3w ⊢
 go_loopg [6] ts.length (fun k v6 wr=>Hid (PLInv N σ w P t ts nl tn b3 (b3+1) k v6 wr))
 case atStart=>exact INV
 case round =>
   obtain ⟨pre,rest,c,cs,hpr,hgk,hrc,hatc,hB3,hB4,hown,hkt⟩:=hrel.out
   clear hrel INV
   have hcs:∃ d ds,cs=d :: ds∧TokG f σ.T c.e d:=by
     have h1:=HC.out
     rw [hpr,List.append_assoc,hrc] at h1
     cases cs with
     | nil =>
       cases rest with
       | nil=>simp at hrc
       | cons a b=>cases b <;> simp at hrc
     | cons d ds=>exact ⟨d,ds,rfl,ChainG.mid h1⟩
   obtain ⟨d,ds,rfl,htd⟩:=hcs
   have HPR:=hide hpr
   have HGK:=hide hgk
   have HRC:=hide hrc
   have HAC:=hide hatc
   have HTD:=hide htd
   have HB3:=hide hB3
   have HB4:=hide hB4
   have HO:=hide hown
   have HK:=hide hkt
   clear hpr hgk hrc hatc htd hB3 hB4 hown hkt
   go_wp2_with fail
   refine (lex_g N σ _ c d P f HAC.out (fun k hk=>Nat.lt_of_lt_of_le (HP.out k hk) HK.out.size) (HT.out.below HK.out.below) HTD.out).mono ?_
   rintro e w2 ⟨rfl,hat2,hk2⟩
   have HA2:=hide hat2
   have HK2:=hide hk2
   clear hat2 hk2
   unfold Tk.valG
   have hpos:=HB3.out.keptU HK2.out (by simp [LexP])
   have hpos2:=HB4.out.keptU HK2.out (by simp [LexP])
   have hto:=ownsRow_keptU HO.out HK2.out (by simp [LexP])
   have hwsz:w.heap.size≤w2.heap.size:=by have:=HK2.out.size;have:=HK.out.size;omega
   rcases Nat.eq_zero_or_pos gk with h0 | h0
   · subst h0
     have hr:c=nl∧d=tn∧ts=pre:=by
       have h1:=HGK.out
       have h2:=HRC.out
       have h3:=HPR.out
       have:rest=[]:=List.eq_nil_of_length_eq_zero h1
       subst this
       simp at h2 h3
       exact ⟨h2.1.symm,h2.2.1.symm,h3⟩
     obtain ⟨rfl,rfl,rfl⟩:=hr
     obtain ⟨rg,rcap,rfl⟩:=owns_form HO.out
     have ktot:Ku N (LexP P) w w2:=HK.out.trans HK2.out
     have qs0:w2.cell? ⟨b3,0,none⟩=some (.int .i64 (lineAt σ.T t.s:Nat)):=hpos.cell 0 rfl
     have qe0:w2.cell? ⟨b3+1,0,none⟩=some (.int .i64 (lineAt σ.T (lastTk t ts).e:Nat)):=hpos2.cell 0 rfl
     have qs1:w2.cell? ⟨b3,1,none⟩=some (.int .i64 (colAt σ.T t.s:Nat)):=hpos.cell 1 rfl
     have qe1:w2.cell? ⟨b3+1,1,none⟩=some (.int .i64 (colAt σ.T (lastTk t ts).e:Nat)):=hpos2.cell 1 rfl
     have qs2:w2.cell? ⟨b3,2,none⟩=some (.int .i64 (t.s:Nat)):=hpos.cell 2 rfl
     have qe2:w2.cell? ⟨b3+1,2,none⟩=some (.int .i64 ((lastTk t ts).e:Nat)):=hpos2.cell 2 rfl
     have n3:=World.new_ne w2 _ qs0
     have n4:=World.new_ne w2 _ qe0
     simp only at n3 n4
     have l3:=hpos.lt
     have l4:=hpos2.lt
     have HTO:=hide hto
     have HKT:=hide ktot
     clear hpos hpos2 hto ktot
     go_wp2_with fail
     refine (isEOL_yes c HNL.out _).mono ?_
     rintro e w' ⟨rfl,rfl⟩
     go_wp2_with fail
     go_ret
     have kfin:Ku N (fun _ _=>False) w2 ((w2.alloc (Obj.cells (c.cellsG σ.T) 153)).alloc (Obj.cells #[nilS,nilS,nilS,.int .i64 (lineAt σ.T t.s:Nat),.int .i64 (colAt σ.T t.s:Nat),.int .i64 (t.s:Nat),.slice (some ⟨rg,0,none⟩) (ts.length+1) rcap,.bool true,.int .i64 (lineAt σ.T (lastTk t ts).e:Nat),.int .i64 (colAt σ.T (lastTk t ts).e:Nat),.int .i64 ((lastTk t ts).e:Nat)] 136)):=((Ku.refl _ _ _).alloc (by omega) _).alloc (by omega) _
     refine ⟨w2.heap.size+1,rfl,by omega,HA2.out.keptU kfin id id (fun _ h=>h.elim),HKT.out.trans (kfin.mono (fun _ _ h=>h.elim)),_,Blk.newAt _ _ _ _ (by simp),own_low (ownsRow_keptU HTO.out kfin (fun _ _ h=>h)) hNw⟩
   · have hcw:NonE c:=by
       have h1:=HGK.out
       have h2:=HRC.out
       cases rest with
       | nil=>simp at h1;omega
       | cons u rest' =>
         simp at h2
         exact h2.1 ▸ HW.out u (by rw [HPR.out];simp)
     have HCW:=hide hcw
     have HO2:=hide hto
     have HP2:=hide hpos
     have HP22:=hide hpos2
     clear hcw hto hpos hpos2
     have hpl:pre.length≤1000000:=by have:=congrArg List.length HPR.out;simp at this;omega
     go_wp2_with fail
     refine (isEOL_no' c HCW.out _).mono ?_
     rintro e w' ⟨rfl,rfl⟩
     have hm1:pre.length+1+1≤maxLen:=by unfold maxLen;omega
     have hm2:(pre.length+1+1) * 16≤140737488355328:=by omega
     have hm3:∀ (a b:Obj),w.heap.size≤((w2.alloc a).alloc b).heap.size:=fun a b=>by simp;omega
     have hm4:∀ (a b:Obj),((w2.alloc a).alloc b).heap.size=w2.heap.size+1+1:=fun a b=>by simp
     have hm5:∀ u ∈ [Value.string (mkS (tkTxt σ.T c))],u.oneCell'=true:=by simp [Value.oneCell']
     have M:=hide (And.intro hm1 (And.intro hm2 (And.intro hm3 (And.intro hm4 hm5))))
     clear hm1 hm2 hm3 hm4 hm5
     go_wp2_with (at_builtin;refine wpList_append_lies _ rfl _ _ _ rfl w.heap.size 9 i0 _ 1 16 Tryz.und_strs hi0 hz0 hz1 hz2 rfl (by omega) _ _ _ (by rfl) ((HO2.out.alloc _).alloc _) ⟨w2.heap.size+1,0,none⟩ 1 1 [.string (mkS (tkTxt σ.T c))] (by rfl) (by rfl) (news_two _ _ _ _) M.out.2.2.2.2 (by omega) M.out.1 M.out.2.1 (M.out.2.2.1 _ _) (w2.heap.size+1+1) (M.out.2.2.2.1 _ _) ?_;intro g cap w3 hown3 hgrow3 hat3 hlt3;obtain ⟨hk3,ht3,hp3⟩:=pl_append HO2.out hwsz hgrow3 HP22.out;clear hgrow3 hat3 hlt3;have e4:w3.cell? ⟨w2.heap.size,4,none⟩=some (.int .i64 (lineAt σ.T c.e:Nat)):=ht3.cell 4 rfl;have e5:w3.cell? ⟨w2.heap.size,5,none⟩=some (.int .i64 (colAt σ.T c.e:Nat)):=ht3.cell 5 rfl;have e6:w3.cell? ⟨w2.heap.size,6,none⟩=some (.int .i64 (c.e:Nat)):=ht3.cell 6 rfl;have p0:w3.cell? ⟨b3+1,0,none⟩=some (.int .i64 (lineAt σ.T (lastTk t pre).e:Nat)):=hp3.cell 0 rfl;have p1:w3.cell? ⟨b3+1,1,none⟩=some (.int .i64 (colAt σ.T (lastTk t pre).e:Nat)):=hp3.cell 1 rfl;have p2:w3.cell? ⟨b3+1,2,none⟩=some (.int .i64 ((lastTk t pre).e:Nat)):=hp3.cell 2 rfl;have pf:∀ j,w3.frozen? ⟨b3+1,j,none⟩=false:=fun j=>hp3.free j;have HP3:=hide hp3;have HK3:=hide hk3;have HOWN3:=hide hown3;clear hp3 hk3 hown3 ht3)
     go_roundg (gk - 1)
     case measure=>omega
     case rel =>
       have hr:∃ rest',rest=c :: rest'∧rest'++[nl,tn]=d :: ds:=by
         have h1:=HGK.out
         have h2:=HRC.out
         cases rest with
         | nil=>simp at h1;omega
         | cons u rest' =>
           simp only [List.cons_append,List.cons.injEq] at h2
           exact ⟨rest',by rw [h2.1],h2.2⟩
       obtain ⟨rest',hr1,hr2⟩:=hr
       have hN2:w.heap.size≤b3+1:=by omega
       have kall:Ku w.heap.size (fun _ u=>u=9∨u=134) w2 (((w3.setCell ⟨b3+1,0,none⟩ (Value.int IntKind.i64 ↑(lineAt σ.T c.e))).setCell ⟨b3+1,1,none⟩ (Value.int IntKind.i64 ↑(colAt σ.T c.e))).setCell ⟨b3+1,2,none⟩ (Value.int IntKind.i64 ↑c.e)) :=
         by
           refine Ku.set_blk ?_ hN2 HP22.out (Or.inr rfl)
           refine Ku.set_blk ?_ hN2 HP22.out (Or.inr rfl)
           refine Ku.set_blk ?_ hN2 HP22.out (Or.inr rfl)
           exact HK3.out.mono (fun _ _ h=>Or.inl h)
       have k3:Ku w.heap.size (fun _ u=>u=134) w3 (((w3.setCell ⟨b3+1,0,none⟩ (Value.int IntKind.i64 ↑(lineAt σ.T c.e))).setCell ⟨b3+1,1,none⟩ (Value.int IntKind.i64 ↑(colAt σ.T c.e))).setCell ⟨b3+1,2,none⟩ (Value.int IntKind.i64 ↑c.e)) :=
         by
           refine Ku.set_blk ?_ hN2 HP3.out rfl
           refine Ku.set_blk ?_ hN2 HP3.out rfl
           refine Ku.set_blk ?_ hN2 HP3.out rfl
           exact Ku.refl _ _ _
       have hl:lastTk t (pre++[c])=c:=by simp [lastTk]
       have klow:Ku N (LexP P) w (((w3.setCell ⟨b3+1,0,none⟩ (Value.int IntKind.i64 ↑(lineAt σ.T c.e))).setCell ⟨b3+1,1,none⟩ (Value.int IntKind.i64 ↑(colAt σ.T c.e))).setCell ⟨b3+1,2,none⟩ (Value.int IntKind.i64 ↑c.e)):=by
         have k4:=HK.out.trans HK2.out
         exact ⟨k4.below.trans (kall.below.mono hNw),fun i ds' u fz e hn=>(kall.below.block i (Array.getElem?_eq_some_iff.1 e).1).trans (k4.keep i ds' u fz e hn)⟩
       refine hide ⟨pre++[c],rest',d,ds,by rw [HPR.out,hr1];simp,by have:=HGK.out;rw [hr1] at this;simp at this;omega,hr2,HA2.out.keptU kall (by decide) (by decide) (fun g e=>absurd e (by decide)),?_,?_,?_,klow⟩
       · have:=HP2.out.keptU HK3.out (by decide)
         exact ((this.set_other (by simp) _).set_other (by simp) _).set_other (by simp) _
       · rw [hl]
         exact ((HP3.out.set 0 _).set 1 _).set 2 _
       · have:=ownsRow_keptU HOWN3.out k3 (fun _ _=>by decide)
         simpa [tvals] using this
end
section
open Go.RowKit Go.Proofs
def panicE (B:Nat):Ending:=.panicked [{ v:=.iface 123 (.pointer (some ⟨B,17,none⟩)),recovered:=false }]
set_option maxHeartbeats 2000000 in
theorem error_g (B:Nat) (w:World) (cs:Array Value) (nm s:ByteArray) (a1 a2 a3:Int) (h:Blk w B 155 cs) (h0:cs[0]?=some (.string nm)) (h12:cs[12]?=some (.int .i64 a1)) (h13:cs[13]?=some (.int .i64 a2)) (h14:cs[14]?=some (.int .i64 a3)) (h17:cs[17]?=some (.slice none 0 0)) :
   Calls Tryz.prog 92 #[.pointer (some ⟨B,0,none⟩),.string s] w fun e w'=>e=panicE B∧Kp (fun k=>k=B) w w'∧∃ g cap,Blk w' B 155 (cs.setIfInBounds 17 (.slice (some ⟨g,0,none⟩) 1 cap)):=by
 obtain ⟨i0,hi0,hi1⟩:=Option.map_eq_some_iff.1 Tryz.infoErr
 simp only [Prod.mk.injEq] at hi1
 obtain ⟨z0,hz0,hz1⟩:=Option.map_eq_some_iff.1 hi1.1
 have hz2:=hi1.2.1
 have hz3:=hi1.2.2
 clear hi1
 have c0:w.cell? ⟨B,0,none⟩=some (.string nm):=h.cell 0 h0
 have c12:w.cell? ⟨B,12,none⟩=some (.int .i64 a1):=h.cell 12 h12
 have c13:w.cell? ⟨B,13,none⟩=some (.int .i64 a2):=h.cell 13 h13
 have c14:w.cell? ⟨B,14,none⟩=some (.int .i64 a3):=h.cell 14 h14
 have c17:w.cell? ⟨B,17,none⟩=some (.slice none 0 0):=h.cell 17 h17
 have hlt:=h.lt
 have hne:w.heap.size≠B:=by omega
 have hne2:w.heap.size+1≠B:=by omega
 have hne3:w.heap.size+1+1≠B:=by omega
 have hne3':B≠w.heap.size+1+1:=by omega
 have hne':B≠w.heap.size:=by omega
 have hne2':B≠w.heap.size+1:=by omega
 have hf:∀ j,w.frozen? ⟨B,j,none⟩=false:=fun j=>h.free j
 have HKEEP:Hid (∀ W,Kp (fun _=>False) w W→W.cell? ⟨B,0,none⟩=some (.string nm)∧W.cell? ⟨B,12,none⟩=some (.int .i64 a1)∧W.cell? ⟨B,13,none⟩=some (.int .i64 a2)∧W.cell? ⟨B,14,none⟩=some (.int .i64 a3)) :=
   hide (fun W k=>⟨(h.kept k id).cell 0 h0,(h.kept k id).cell 12 h12,(h.kept k id).cell 13 h13,(h.kept k id).cell 14 h14⟩)
 have HKEEP2:Hid (∀ W v,Kp (fun _=>False) w W→(W.setCell ⟨B,17,none⟩ v).cell? ⟨B,0,none⟩=some (.string nm)∧(W.setCell ⟨B,17,none⟩ v).cell? ⟨B,12,none⟩=some (.int .i64 a1)∧(W.setCell ⟨B,17,none⟩ v).cell? ⟨B,13,none⟩=some (.int .i64 a2)∧(W.setCell ⟨B,17,none⟩ v).cell? ⟨B,14,none⟩=some (.int .i64 a3)) :=
   hide (fun W v k=>⟨((h.kept k id).set 17 v).cell 0 (by simpa using h0),((h.kept k id).set 17 v).cell 12 (by simpa using h12),((h.kept k id).set 17 v).cell 13 (by simpa using h13),((h.kept k id).set 17 v).cell 14 (by simpa using h14)⟩)
 have H:=hide h
 have HC:=hide (And.intro h0 (And.intro h12 (And.intro h13 (And.intro h14 h17))))
 clear h h0 h12 h13 h14 h17
 go_enter Tryz.func92,Tryz.ntmps92
 go_wp2_with fail
 change Code.wp _ (Code.region _ #[_,_,_,_,id _,_,_,_,_,_,_,_,_,_,_,_,_,_,_,_,_] _) _ _ _
 go_region_held3 (fun w'=>w'.cell? ⟨B,0,none⟩=some (.string nm)∧w'.cell? ⟨B,12,none⟩=some (.int .i64 a1)∧w'.cell? ⟨B,13,none⟩=some (.int .i64 a2)∧w'.cell? ⟨B,14,none⟩=some (.int .i64 a3)) (first | (go_keep;done) | exact HS2.out _ | (refine HS.out _ ?_;repeat (with_reducible first | exact Kp.refl _ _ | refine Kp.drew ?_ | refine Kp.alloc ?_ _)) | (refine HKEEP.out _ ?_;repeat (with_reducible first | exact Kp.refl _ _ | refine Kp.drew ?_ | refine Kp.alloc ?_ _)))
   (first
     | (go_at_call 53;refine (errors_new _ _).mono ?_;rintro e w1 ⟨rfl,rfl⟩)
     | (refine step_append_lies _ (by rfl) _ _ _ (by rfl) 0 146 i0 _ 7 88 Tryz.und_errs hi0 hz0 hz2 hz3 hz1 (by omega) (.slice none 0 0) 0 [] (by rfl) ⟨rfl,Or.inl ⟨rfl,rfl⟩⟩ ⟨w.heap.size+1,0,none⟩ 1 1 [.string nm,.int .i64 a1,.int .i64 a2,.int .i64 a3,.string ⟨#[]⟩,.string ⟨#[]⟩,.iface 180 (.pointer (some ⟨w.heap.size,0,none⟩))] (by rfl) (by rfl) (by first | exact news_two _ _ _ _ | exact fun j u h=>news_two w _ _ _ j u h) (by simp [Value.oneCell']) (by omega) (by decide) (by decide) (by simp) (w.heap.size+1+1) (by simp) ?_;intro gg cap w3 hown3 hgrow3 hat3 hlt3;have k3:Kp (fun _=>False) w w3:=Kp.grown (a:=w) (by repeat (with_reducible first | exact Kp.refl _ _ | refine Kp.drew ?_ | refine Kp.alloc ?_ _)) hgrow3 (fun k e=>by cases e);have b3:=H.out.kept k3 id;have q17:w3.cell? ⟨B,17,none⟩=some (.slice none 0 0):=b3.cell 17 HC.out.2.2.2.2;have f3:∀ j,w3.frozen? ⟨B,j,none⟩=false:=fun j=>b3.free j;have K3:=hide k3;have B3:=hide b3;have HS:=hide (fun W (k:Kp (fun _=>False) w3 W)=>HKEEP.out W (k3.trans k));have HS2:=hide (fun v=>HKEEP2.out w3 v k3);clear hgrow3 hat3 hlt3 hown3 k3 b3))
 all_goals go_wp2_with fail
 all_goals exact ⟨rfl,rfl,(K3.out.mono (fun _ h=>h.elim)).set (fun _=>rfl),gg,cap,B3.out.set 17 _⟩
end
end Go.Proofs.YtifkpibjeamfkaaGreatFmt
