/-
  Tokens; the frame by types; (*input).lex.
  (*input).lex.
  (*input).parseStmt at a line of words.
-/
import Derived.Test.YtifkpibjeamfkaaGreatFmtZ06
import Derived.Test.YtifkpibjeamfkaaGreatFmtZ07
import Derived.Deep.AppendLies
set_option linter.unusedVariables false
set_option linter.unusedSimpArgs false
set_option maxRecDepth 100000
namespace Go.Proofs.YtifkpibjeamfkaaGreatFmt
section
open Go.RowKit Go.Proofs
structure Kt (N:Nat) (S:TypeId→Prop) (w w':World):Prop where
 below:Below N w w'
 keep:∀ (k:Nat) (cs:Array Value) (t:TypeId) (fz:Nat × Nat),w.heap[k]?=some (Obj.cells cs t fz)→¬ S t→w'.heap[k]?=some (Obj.cells cs t fz)
theorem Kt.refl (N:Nat) (S:TypeId→Prop) (w:World):Kt N S w w:=⟨Below.refl _ _,fun _ _ _ _ h _=>h⟩
theorem Kt.trans {N:Nat} {S:TypeId→Prop} {a b c:World} (h:Kt N S a b) (k:Kt N S b c):Kt N S a c :=
 ⟨h.below.trans k.below,fun i cs t fz e hn=>k.keep i cs t fz (h.keep i cs t fz e hn) hn⟩
theorem Kt.trans_low {N M:Nat} {S S':TypeId→Prop} {a b c:World} (h:Kt N S a b) (k:Kt M S' b c) (hM:a.heap.size≤M) (hN:N≤a.heap.size):Kt N S a c :=
 ⟨h.below.trans (k.below.mono (Nat.le_trans hN hM)),fun i cs t fz e hn=>(k.below.block i (Nat.lt_of_lt_of_le (Array.getElem?_eq_some_iff.1 e).1 hM)).trans (h.keep i cs t fz e hn)⟩
theorem Kt.mono {N:Nat} {S S':TypeId→Prop} {a b:World} (h:Kt N S a b) (hs:∀ t,S t→S' t):Kt N S' a b :=
 ⟨h.below,fun i cs t fz e hn=>h.keep i cs t fz e (fun x=>hn (hs t x))⟩
theorem Kt.low {N M:Nat} {S:TypeId→Prop} {a b:World} (h:Kt N S a b) (hm:M≤N):Kt M S a b:=⟨h.below.mono hm,h.keep⟩
theorem Kt.size {N:Nat} {S:TypeId→Prop} {a b:World} (h:Kt N S a b):a.heap.size≤b.heap.size:=h.below.size
theorem Kt.of_kp {N:Nat} {S:TypeId→Prop} {X:Nat→Prop} {w w':World} (h:Kp X w w') (hN:N≤w.heap.size) (hx:∀ k,X k→N≤k) (ht:∀ k,X k→∀ (cs:Array Value) (t:TypeId) (fz:Nat × Nat),w.heap[k]?=some (Obj.cells cs t fz)→S t):Kt N S w w':=by
 refine ⟨h.below hN hx,fun k cs t fz e hn=>?_⟩
 have hk:k < w.heap.size:=(Array.getElem?_eq_some_iff.1 e).1
 exact (h.block k hk (fun hX=>hn (ht k hX cs t fz e))).trans e
theorem Kt.drew {N:Nat} {S:TypeId→Prop} {a w:World} (h:Kt N S a w):Kt N S a w.drew:=⟨h.below.drew,h.keep⟩
theorem Kt.drewN {N:Nat} {S:TypeId→Prop} {a w:World} (h:Kt N S a w) (n:Nat):Kt N S a (w.drewN n):=⟨⟨h.below.os,h.below.tape,h.below.output,h.below.size,h.below.block⟩,h.keep⟩
theorem Kt.alloc {N:Nat} {S:TypeId→Prop} {a w:World} (h:Kt N S a w) (hN:N≤a.heap.size) (o:Obj):Kt N S a (w.alloc o):=by
 refine ⟨h.below.alloc (Nat.le_trans hN h.size) o,fun k cs t fz e hn=>?_⟩
 have h1:=h.keep k cs t fz e hn
 rw [Below.heap_alloc _ _ _ (Array.getElem?_eq_some_iff.1 h1).1]
 exact h1
theorem Kt.set {N:Nat} {S:TypeId→Prop} {a w:World} {b o:Nat} {u:Value} (h:Kt N S a w) (hb:N≤b) (hs:∀ (cs:Array Value) (t:TypeId) (fz:Nat × Nat),a.heap[b]?=some (Obj.cells cs t fz)→S t):Kt N S a (w.setCell ⟨b,o,none⟩ u):=by
 refine ⟨h.below.setCell hb u,fun k cs t fz e hn=>?_⟩
 have h1:=h.keep k cs t fz e hn
 have hne:k≠b:=by
   rintro rfl
   exact hn (hs cs t fz e)
 rw [Below.heap_setCell _ _ _ _ hne]
 exact h1
theorem Kt.set_new {N:Nat} {S:TypeId→Prop} {a w:World} {b o:Nat} {u:Value} (h:Kt N S a w) (hb:N≤b) (hs:a.heap.size≤b):Kt N S a (w.setCell ⟨b,o,none⟩ u) :=
 h.set hb (fun cs t fz e=>by rw [Array.getElem?_eq_none hs] at e;cases e)
theorem Kt.set_blk {N:Nat} {S:TypeId→Prop} {a w:World} {b o:Nat} {u:Value} {t:TypeId} {ds:Array Value} (h:Kt N S a w) (hb:N≤b) (hB:Blk a b t ds) (hs:S t):Kt N S a (w.setCell ⟨b,o,none⟩ u) :=
 h.set hb (fun cs t' fz e=>by rw [hB.out] at e;injection e with e;injection e with _ e;exact e ▸ hs)
theorem Kt.grown {N:Nat} {S:TypeId→Prop} {a w w':World} {row:Option Nat} (h:Kt N S a w) (hN:N≤a.heap.size) (hg:w.grownBy w' row) (hr:∀ k,row=some k→N≤k∧(∀ (cs:Array Value) (t:TypeId) (fz:Nat × Nat),a.heap[k]?=some (Obj.cells cs t fz)→S t)):Kt N S a w':=by
 refine ⟨h.below.grown hg (Nat.le_trans hN h.size) (fun k hk=>(hr k hk).1),fun k cs t fz e hn=>?_⟩
 have h1:=h.keep k cs t fz e hn
 have hk:k < w.heap.size:=(Array.getElem?_eq_some_iff.1 h1).1
 refine (hg.block k hk (fun he=>?_)).trans h1
 exact hn ((hr k he.symm).2 cs t fz e)
theorem Blk.keptT {N:Nat} {S:TypeId→Prop} {w w':World} {b:Nat} {t:TypeId} {cs:Array Value} (h:Blk w b t cs) (k:Kt N S w w') (hn:¬ S t):Blk w' b t cs:=⟨k.keep _ _ _ _ h.out hn⟩
theorem ownsRow_keptT {N base:Nat} {S:TypeId→Prop} {w w':World} {e:TypeId} {size n:Nat} {v:Value} {xs:List Value} (h:w.ownsRow base e size v n xs) (k:Kt N S w w') (hn:¬ S e):w'.ownsRow base e size v n xs:=by
 obtain ⟨h1,h2⟩:=h
 refine ⟨h1,?_⟩
 rcases h2 with h2 | ⟨g,cap,cur,hv,hg,hh,r⟩
 · exact Or.inl h2
 · exact Or.inr ⟨g,cap,cur,hv,hg,k.keep _ _ _ _ hh hn,r⟩
theorem LxAt.keptT {N:Nat} {S:TypeId→Prop} {w w':World} {σ:Lx} (h:LxAt w σ) (k:Kt N S w w') (h1:¬ S 155) (h2:¬ S 5):LxAt w' σ:=by
 obtain ⟨cs,fz,e⟩:=h.dat
 refine ⟨h.blk.keptT k h1,fun j hj=>?_,h.ascii,h.hp,h.hn,h.hC,h.hT,h.hq,⟨cs,fz,k.keep _ _ _ _ e h2⟩⟩
 rw [World.cell?_of_block (w:=w) ((k.keep _ _ _ _ e h2).trans e.symm)]
 exact h.txt j hj
theorem PrTab.keptT {N:Nat} {S:TypeId→Prop} {w w':World} (h:PrTab w) (k:Kt N S w w') (hx:0 < N):PrTab w':=by
 intro c hc
 obtain ⟨v,hv,hr⟩:=h c hc
 exact ⟨v,(World.cell?_of_block (w:=w) (a:=⟨0,c,none⟩) (k.below.block _ hx)).trans hv,hr⟩
theorem own_low {w:World} {b b':Nat} {e:TypeId} {size n:Nat} {v:Value} {xs:List Value} (h:w.ownsRow b e size v n xs) (hb:b'≤b):w.ownsRow b' e size v n xs:=by
 obtain ⟨h1,h2⟩:=h
 refine ⟨h1,?_⟩
 rcases h2 with h2 | ⟨g,cap,cur,hv,hg,r⟩
 · exact Or.inl h2
 · exact Or.inr ⟨g,cap,cur,hv,Nat.le_trans hb hg,r⟩
structure Tk where
 k:Int
 s:Nat
 e:Nat
def Ws (T:List UInt8) (p s:Nat):Prop:=∀ i,p≤i→i < s→ch T i=32∨ch T i=9
inductive TokAt (T:List UInt8) (p:Nat):Tk→Prop
 | eof (hp:p≤T.length) (hw:Ws T p T.length):TokAt T p ⟨-1,T.length,T.length⟩
 | nl (s:Nat) (hp:p≤s) (hs:s < T.length) (hw:Ws T p s) (hc:ch T s=10):TokAt T p ⟨10,s,s+1⟩
 | id (s e:Nat) (hp:p≤s) (hse:s < e) (he:e≤T.length) (hw:Ws T p s) (hid:∀ i,s≤i→i < e→idB (ch T i)=true∧noCom T i) (h1:ch T s≠34) (h2:ch T s≠96) (hend:idEnd T e):TokAt T p ⟨-3,s,e⟩
 | str (s e:Nat) (hp:p≤s) (hs:s < T.length) (hw:Ws T p s) (hc:ch T s=34) (hb:StrB T (s+1) e):TokAt T p ⟨-4,s,e⟩
theorem TokAt.bd {T:List UInt8} {p:Nat} {t:Tk} (h:TokAt T p t):p≤t.s∧t.s≤t.e∧t.e≤T.length:=by
 cases h with
 | eof hp _=>exact ⟨hp,Nat.le_refl _,Nat.le_refl _⟩
 | nl s hp hs _ _=>exact ⟨hp,Nat.le_succ _,hs⟩
 | id s e hp hse he _ _ _ _ _=>exact ⟨hp,Nat.le_of_lt hse,he⟩
 | str s e hp hs _ _ hb=>have:=hb.lt;exact ⟨hp,by show s≤e;omega,this.2⟩
def txtOf (T:List UInt8) (t:Tk):ByteArray:=mkS (seg T t.s t.e)
def At (w:World) (σ:Lx) (t:Tk):Prop:=∃ q ts,IsSl ts∧LxAt w (σ.lexed q ts t.k t.s t.e (txtOf σ.T t))
theorem At.keptT {N:Nat} {S:TypeId→Prop} {w w':World} {σ:Lx} {t:Tk} (h:At w σ t) (k:Kt N S w w') (h1:¬ S 155) (h2:¬ S 5):At w' σ t:=by
 obtain ⟨q,ts,hs,hx⟩:=h
 exact ⟨q,ts,hs,hx.keptT k h1 h2⟩
def Read (N:Nat) (w:World) (σ:Lx) (t:Tk) (en:Ending) (w':World):Prop:=en=.returned (.tuple #[])∧At w' σ t∧Kt N (fun u=>u=155) w w'
theorem readToken_tok (N:Nat) (σ:Lx) (w:World) (t:Tk) (h:LxAt w σ) (hts:IsSl σ.ts) (ht:TokAt σ.T σ.p t) (hpr:PrTab w) (hP:0 < N) (hN:N≤σ.B) :
   Calls Tryz.prog 59 #[.pointer (some ⟨σ.B,0,none⟩)] w (Read N w σ t):=by
 have hB:0 < σ.B:=by omega
 have fin:∀ e w',Lexed w σ t.k t.s t.e (txtOf σ.T t) e w'→Read N w σ t e w':=by
   rintro e w' ⟨q,ts,he,hs,hl,hk⟩
   refine ⟨he,⟨q,ts,hs,hl⟩,Kt.of_kp hk (Nat.le_trans hN (Nat.le_of_lt h.blk.lt)) (fun k e=>e ▸ hN) (fun k e cs u fz hu=>?_)⟩
   subst e
   have hb:=h.blk.out
   rw [hu] at hb
   injection hb with hb
   injection hb
 cases ht with
 | eof hp hw=>exact (readToken_eof σ w h hts hw).mono fin
 | nl s hp hs hw hc=>exact (readToken_p10 σ w s h hts hp hs hw hc).mono fin
 | id s e hp hse he hw hid h1 h2 hend=>exact (readToken_id σ w s e h hts hp hse he hw hid h1 h2 hend hpr hB).mono fin
 | str s e hp hs hw hc hb=>exact (readToken_str σ w s e h hts hp hs hw hc hb).mono fin
def Tk.val (T:List UInt8) (t:Tk):Value :=
 .agg #[.int .i64 t.k,.int .i64 (lineAt T t.s:Nat),.int .i64 (colAt T t.s:Nat),.int .i64 (t.s:Nat),.int .i64 (lineAt T t.e:Nat),.int .i64 (colAt T t.e:Nat),.int .i64 (t.e:Nat),.string (txtOf T t)]
end
section
open Go.RowKit Go.Proofs
def TkZero:Array Value:=#[Value.int IntKind.i64 0,Value.int IntKind.i64 0,Value.int IntKind.i64 0,Value.int IntKind.i64 0,Value.int IntKind.i64 0,Value.int IntKind.i64 0,Value.int IntKind.i64 0,Value.string { data:=#[] }]
def Tk.cells (t:Tk) (T:List UInt8):Array Value:=#[.int .i64 t.k,.int .i64 (lineAt T t.s:Nat),.int .i64 (colAt T t.s:Nat),.int .i64 (t.s:Nat),.int .i64 (lineAt T t.e:Nat),.int .i64 (colAt T t.e:Nat),.int .i64 (t.e:Nat),.string (txtOf T t)]
set_option maxHeartbeats 1000000 in
theorem lex_at (N:Nat) (σ:Lx) (w:World) (t t':Tk) (h:At w σ t) (ht:TokAt σ.T t.e t') (hpr:PrTab w) (hP:0 < N) (hN:N≤σ.B) :
   Calls Tryz.prog 95 #[.pointer (some ⟨σ.B,0,none⟩)] w fun e w'=>e=.returned (t.val σ.T)∧At w' σ t'∧Kt N (fun u=>u=155) w w':=by
 obtain ⟨q,ts,hsl,hx⟩:=h
 have h4:=hx.c4
 have h5:=hx.c5
 have h6:=hx.c6
 have h7:=hx.c7
 have h8:=hx.c8
 have h9:=hx.c9
 have h10:=hx.c10
 have h11:=hx.c11
 simp only [Lx.lexed] at h4 h5 h6 h7 h8 h9 h10 h11
 have hlt:σ.B < w.heap.size:=hx.blk.lt
 have hne:w.heap.size≠σ.B:=by omega
 have hne2:w.heap.size+1≠σ.B:=by omega
 have hne3:σ.B≠w.heap.size:=by omega
 have hne4:σ.B≠w.heap.size+1:=by omega
 have hNs:N≤w.heap.size:=by omega
 have HX:=hide hx
 have HP:=hide hpr
 have HT:=hide ht
 clear hpr ht hx
 go_enter Tryz.func95,Tryz.ntmps95
 go_wp2_with fail
 have k1:Kt N (fun _=>False) w ((w.alloc (Obj.cells TkZero 153)).alloc (Obj.cells (t.cells σ.T) 153)):=((Kt.refl _ _ _).alloc hNs _).alloc hNs _
 have b2:=(Blk.new w 153 TkZero).alloc (Obj.cells (t.cells σ.T) 153)
 have b3:=Blk.new (w.alloc (Obj.cells TkZero 153)) 153 (t.cells σ.T)
 rw [show (w.alloc (Obj.cells TkZero 153)).heap.size=w.heap.size+1 from by simp] at b3
 change Calls _ _ _ ((w.alloc (Obj.cells TkZero 153)).alloc (Obj.cells (t.cells σ.T) 153)) _
 generalize ((w.alloc (Obj.cells TkZero 153)).alloc (Obj.cells (t.cells σ.T) 153))=W at k1 b2 b3 ⊢
 have hrd:=readToken_tok N _ W t' (HX.out.keptT k1 id id) hsl HT.out (HP.out.keptT k1 hP) hP hN
 refine hrd.mono ?_
 rintro e w2 ⟨rfl,hat,hk2⟩
 have d2:=b2.keptT hk2 (by decide)
 have d3:=b3.keptT hk2 (by decide)
 have k2:Kt N (fun u=>u=155) w w2:=(k1.mono (fun _ h=>h.elim)).trans hk2
 have r0:=d3.cell 0 rfl
 have z0:=d2.cell 0 rfl
 have r1:=d3.cell 1 rfl
 have z1:=d2.cell 1 rfl
 have r2:=d3.cell 2 rfl
 have z2:=d2.cell 2 rfl
 have r3:=d3.cell 3 rfl
 have z3:=d2.cell 3 rfl
 have r4:=d3.cell 4 rfl
 have z4:=d2.cell 4 rfl
 have r5:=d3.cell 5 rfl
 have z5:=d2.cell 5 rfl
 have r6:=d3.cell 6 rfl
 have z6:=d2.cell 6 rfl
 have r7:=d3.cell 7 rfl
 have z7:=d2.cell 7 rfl
 simp only [Tk.cells,TkZero,List.getElem_toArray,List.getElem_cons_zero,List.getElem_cons_succ] at r0 r1 r2 r3 r4 r5 r6 r7 z0 z1 z2 z3 z4 z5 z6 z7
 have f2:=fun j=>d2.free j
 have hlt2:=d2.lt
 have hlt3:=d3.lt
 have D2:=hide d2
 have HA:=hide hat
 have K2:=hide k2
 clear d2 d3 b2 b3 k1 hrd hat hk2 k2 h4 h5 h6 h7 h8 h9 h10 h11
 go_wp2
 refine bodyPost_ret (v:=t.val σ.T) (by simp [results,Tryz.results95,go_sem,z0,z1,z2,z3,z4,z5,z6,z7,Tk.val]) rfl ⟨rfl,?_,?_⟩
 · refine At.keptT (N:=N) (S:=fun u=>u=153) (σ:=σ.lexed q ts t.k t.s t.e (txtOf σ.T t)) HA.out ?_ (by decide) (by decide)
   repeat (refine Kt.set_blk ?_ hNs D2.out rfl)
   exact Kt.refl _ _ _
 · repeat (refine Kt.set_new ?_ hNs (Nat.le_refl _))
   exact K2.out
end
section
open Go.RowKit Go.Proofs
theorem isEOL_no (k:Int) (w:World) (h1:(k == -1)=false) (h2:(k == -2)=false) (h3:(k == 10)=false) :
   Calls Tryz.prog 132 #[.int .i64 k] w fun e w'=>e=.returned (.bool false)∧w=w':=by
 go_enter Tryz.func132,Tryz.ntmps132
 go_wp2
 go_ret
 exact ⟨rfl,rfl⟩
theorem isEOL_nl (w:World) :
   Calls Tryz.prog 132 #[.int .i64 10] w fun e w'=>e=.returned (.bool true)∧w=w':=by
 go_enter Tryz.func132,Tryz.ntmps132
 go_wp2
 go_ret
 exact ⟨rfl,rfl⟩
theorem Tryz.infoStr:(Tryz.prog.info? 9).map (fun i=>(i.zero,i.size,i.bytes))=some (some (.string ⟨#[]⟩),1,16):=by kernel_rfl
theorem Tryz.infoExpr:(Tryz.prog.info? 131).map (fun i=>(i.zero,i.size,i.bytes))=some (some .nilIface,1,16):=by kernel_rfl
theorem Tryz.und_strs:Tryz.prog.underlying 26=some (.slice 9):=by kernel_rfl
theorem Tryz.und_exprs:Tryz.prog.underlying 127=some (.slice 131):=by kernel_rfl
theorem Kt.of_append {W w1:World} {N:Nat} {e:TypeId} {size n:Nat} {v:Value} {xs:List Value} (hown:W.ownsRow N e size v n xs) (hg:W.grownBy w1 v.ownBlock) (hN:N≤W.heap.size):Kt N (fun u=>u=e) W w1:=by
 refine Kt.grown (Kt.refl _ _ _) hN hg (fun k hk=>?_)
 rcases hown.2 with ⟨rfl,_⟩ | ⟨g,cap,cur,rfl,hb,hh,_⟩
 · simp [Value.ownBlock] at hk
 · obtain rfl:g=k:=by simpa [Value.ownBlock] using hk
   refine ⟨hb,fun cs t fz e=>?_⟩
   rw [hh] at e
   injection e with e
   injection e with _ e
   exact e.symm
theorem owns_new (w:World) (base:Nat) (e:TypeId) (cs:Array Value) (hb:base≤w.heap.size) (hm:cs.size≤maxLen) :
   (w.alloc (.cells cs e)).ownsRow base e 1 (.slice (some ⟨w.heap.size,0,none⟩) cs.size cs.size) cs.size cs.toList:=by
 refine ⟨by simp,.inr ⟨w.heap.size,cs.size,cs,rfl,hb,heap_alloc_new w _,Nat.le_refl _,hm,by simp,?_⟩⟩
 simp [List.take_of_length_le]
theorem news_two (w:World) (o:Obj) (cs:Array Value) (t:TypeId):∀ (j:Nat) (u:Value),cs.toList[j]?=some u→((w.alloc o).alloc (.cells cs t)).cell? ((⟨w.heap.size+1,0,none⟩:Addr).add j)=some u:=by
 have h:=heap_alloc_new (w.alloc o) (.cells cs t)
 rw [show (w.alloc o).heap.size=w.heap.size+1 from by simp] at h
 exact World.news_of_block h
theorem owns_form {w:World} {N:Nat} {e:TypeId} {size n:Nat} {v:Value} {xs:List Value} (h:w.ownsRow N e size v (n+1) xs):∃ g cap,v=.slice (some ⟨g,0,none⟩) (n+1) cap:=by
 rcases h.2 with ⟨_,h2⟩ | ⟨g,cap,cur,e,_⟩
 · omega
 · exact ⟨g,cap,e⟩
def Chain (T:List UInt8):Tk→List Tk→Prop
 | _,[]=>True
 | t,u :: us=>TokAt T t.e u∧Chain T u us
def Word (t:Tk):Prop:=t.k=-3∨t.k=-4
def Tk.pos (T:List UInt8) (i:Nat):Array Value:=#[.int .i64 (lineAt T i:Nat),.int .i64 (colAt T i:Nat),.int .i64 (i:Nat)]
def nilS:Value:=.slice none 0 0
def lastTk (t:Tk) (ts:List Tk):Tk:=(ts.getLast?).getD t
def LineAt (N:Nat) (w:World) (T:List UInt8) (L:Nat) (t:Tk) (ts:List Tk):Prop :=
 ∃ tv,Blk w L 136 #[nilS,nilS,nilS,.int .i64 (lineAt T t.s:Nat),.int .i64 (colAt T t.s:Nat),.int .i64 (t.s:Nat),tv,.bool false,
     .int .i64 (lineAt T (lastTk t ts).e:Nat),.int .i64 (colAt T (lastTk t ts).e:Nat),.int .i64 ((lastTk t ts).e:Nat)] ∧
   w.ownsRow N 9 1 tv (ts.length+1) ((t :: ts).map fun u=>.string (txtOf T u))
def FileAt (N:Nat) (w:World) (F:Nat) (nm:ByteArray) (xs:List Value):Prop :=
 ∃ v,Blk w F 129 #[.string nm,nilS,nilS,nilS,v]∧w.ownsRow N 131 1 v xs.length xs
def lineV (L:Nat):Value:=.iface 92 (.pointer (some ⟨L,0,none⟩))
theorem Chain.mid {T:List UInt8} {t c d:Tk} {a b:List Tk} (h:Chain T t (a++c :: d :: b)):TokAt T c.e d:=by
 induction a generalizing t with
 | nil=>exact h.2.1
 | cons x a ih=>exact ih h.2
theorem FileAt.keptT {N M:Nat} {S:TypeId→Prop} {w w':World} {F:Nat} {nm:ByteArray} {xs:List Value} (h:FileAt N w F nm xs) (k:Kt M S w w') (h1:¬ S 129) (h2:¬ S 131):FileAt N w' F nm xs:=by
 obtain ⟨v,hb,ho⟩:=h
 exact ⟨v,hb.keptT k h1,ownsRow_keptT ho k h2⟩
theorem LineAt.keptT {N M:Nat} {S:TypeId→Prop} {w w':World} {T:List UInt8} {L:Nat} {t:Tk} {ts:List Tk} (h:LineAt N w T L t ts) (k:Kt M S w w') (h1:¬ S 136) (h2:¬ S 9):LineAt N w' T L t ts:=by
 obtain ⟨v,hb,ho⟩:=h
 exact ⟨v,hb.keptT k h1,ownsRow_keptT ho k h2⟩
def Stmt3 (u:TypeId):Prop:=u=155∨u=129∨u=131
def PSInv (N:Nat) (σ:Lx) (w:World) (t:Tk) (ts:List Tk) (nl tn:Tk) (F:Nat) (nm:ByteArray) (xs:List Value) (b3 b4:Nat) (k:Nat) (v5:Value) (wr:World):Prop :=
 ∃ pre rest c cs,ts=pre++rest∧rest.length=k∧rest++[nl,tn]=c :: cs∧At wr σ c∧Blk wr b3 134 (Tk.pos σ.T t.s)∧Blk wr b4 134 (Tk.pos σ.T (lastTk t pre).e) ∧
   wr.ownsRow w.heap.size 9 1 v5 (pre.length+1) ((t :: pre).map fun u=>.string (txtOf σ.T u))∧Kt N Stmt3 w wr∧FileAt N wr F nm xs
theorem ps_append {N:Nat} {w2 w3:World} {T:List UInt8} {c:Tk} {v:Value} {n:Nat} {xs:List Value} {b4:Nat} {p4:Array Value} (hown:w2.ownsRow N 9 1 v n xs) (hN:N≤w2.heap.size)
   (hg:((w2.alloc (Obj.cells (c.cells T) 153)).alloc (Obj.cells #[Value.string (txtOf T c)] 9)).grownBy w3 v.ownBlock) (h4:Blk w2 b4 134 p4) :
   Kt N (fun u=>u=9) w2 w3∧Blk w3 w2.heap.size 153 (c.cells T)∧Blk w3 b4 134 p4:=by
 have k0:Kt N (fun _=>False) w2 ((w2.alloc (Obj.cells (c.cells T) 153)).alloc (Obj.cells #[Value.string (txtOf T c)] 9)):=((Kt.refl _ _ _).alloc hN _).alloc hN _
 have k1:=Kt.of_append ((hown.alloc (Obj.cells (c.cells T) 153)).alloc (Obj.cells #[Value.string (txtOf T c)] 9)) hg (by simp;omega)
 exact ⟨(k0.mono (fun _ h=>h.elim)).trans k1,((Blk.new w2 153 (c.cells T)).alloc _).keptT k1 (by decide),((h4.alloc _).alloc _).keptT k1 (by decide)⟩
theorem ps_append2 {N:Nat} {w2 w3:World} {v:Value} {n:Nat} {xs:List Value} (o1 o2:Obj) {e:TypeId} {sz:Nat} (hown:w2.ownsRow N e sz v n xs) (hN:N≤w2.heap.size)
   (hg:((w2.drew.alloc o1).alloc o2).grownBy w3 v.ownBlock):Kt N (fun u=>u=e) w2 w3:=by
 have k0:Kt N (fun _=>False) w2 ((w2.drew.alloc o1).alloc o2):=(((Kt.refl _ _ _).drew).alloc hN _).alloc hN _
 have k1:=Kt.of_append ((hown.drew.alloc o1).alloc o2) hg (by simp;omega)
 exact (k0.mono (fun _ h=>h.elim)).trans k1
set_option maxHeartbeats 2000000 in
theorem parseStmt_line (N:Nat) (σ:Lx) (w:World) (t:Tk) (ts:List Tk) (nl tn:Tk) (F:Nat) (nm:ByteArray) (xs:List Value) (h:At w σ t) (hch:Chain σ.T t (ts++[nl,tn])) (hw:∀ u ∈ ts,Word u) (hnl:nl.k=10)
   (hfile:σ.file=.pointer (some ⟨F,0,none⟩)) (hF:FileAt N w F nm xs) (hlen:ts.length≤1000000) (hxs:xs.length≤1000000) (hpr:PrTab w) (hP:0 < N) (hN:N≤σ.B) (hNF:N≤F) :
   Calls Tryz.prog 97 #[.pointer (some ⟨σ.B,0,none⟩)] w fun e w'=>e=.returned (.tuple #[])∧At w' σ tn∧Kt N Stmt3 w w'∧∃ L,w.heap.size≤L∧LineAt N w' σ.T L t ts∧FileAt N w' F nm (xs++[lineV L]):=by
 obtain ⟨i0,hi0,hz0,hz1,hz2⟩:=info_parts Tryz.infoStr
 obtain ⟨t1,trest,hts⟩:∃ t1 trest,ts++[nl,tn]=t1 :: trest:=by
   cases ts with
   | nil=>exact ⟨_,_,rfl⟩
   | cons a b=>exact ⟨_,_,rfl⟩
 have hc0:TokAt σ.T t.e t1:=by rw [hts] at hch;exact hch.1
 have H:=hide h
 have HP:=hide hpr
 have HC:=hide hch
 have HC0:=hide hc0
 have HF:=hide hF
 have HW:=hide hw
 have HTS:=hide hts
 have HNL:=hide hnl
 clear h hpr hch hc0 hF hw hts hnl
 go_enter Tryz.func97,Tryz.ntmps97
 go_wp2_with fail
 refine (lex_at N σ _ t t1 H.out HC0.out HP.out hP hN).mono ?_
 rintro e w1 ⟨rfl,hat1,hk1⟩
 have A1:=hide hat1
 have K1:=hide hk1
 clear hat1 hk1
 unfold Tk.val
 go_wp2
 have hs1:w.heap.size≤w1.heap.size:=K1.out.size
 have hNw:N≤w.heap.size:=Nat.le_trans hN (Nat.le_of_lt (by obtain ⟨q,ts,_,hx⟩:=H.out;exact hx.blk.lt))
 have hN1:N≤w1.heap.size:=by omega
 have c1:=Blk.new w1 153 (t.cells σ.T)
 have c2:=Blk.new (w1.alloc (Obj.cells (t.cells σ.T) 153)) 134 (Tk.pos σ.T t.s)
 have c3:=Blk.new ((w1.alloc (Obj.cells (t.cells σ.T) 153)).alloc (Obj.cells (Tk.pos σ.T t.s) 134)) 134 (Tk.pos σ.T t.e)
 have c2':=(c2.alloc (Obj.cells (Tk.pos σ.T t.e) 134)).alloc (Obj.cells #[Value.string (txtOf σ.T t)] 9)
 have c3':=c3.alloc (Obj.cells #[Value.string (txtOf σ.T t)] 9)
 have c4':((((w1.alloc (Obj.cells (t.cells σ.T) 153)).alloc (Obj.cells (Tk.pos σ.T t.s) 134)).alloc (Obj.cells (Tk.pos σ.T t.e) 134)).alloc (Obj.cells #[Value.string (txtOf σ.T t)] 9)).ownsRow w.heap.size 9 1 (.slice (some ⟨w1.heap.size+1+1+1,0,none⟩) 1 1) 1 [Value.string (txtOf σ.T t)]:=by
   have:=owns_new (((w1.alloc (Obj.cells (t.cells σ.T) 153)).alloc (Obj.cells (Tk.pos σ.T t.s) 134)).alloc (Obj.cells (Tk.pos σ.T t.e) 134)) w.heap.size 9 #[Value.string (txtOf σ.T t)] (by simp;omega) (by simp [maxLen])
   simpa using this
 have kk:Kt N (fun _=>False) w1 ((((w1.alloc (Obj.cells (t.cells σ.T) 153)).alloc (Obj.cells (Tk.pos σ.T t.s) 134)).alloc (Obj.cells (Tk.pos σ.T t.e) 134)).alloc (Obj.cells #[Value.string (txtOf σ.T t)] 9)):=((((Kt.refl _ _ _).alloc hN1 _).alloc hN1 _).alloc hN1 _).alloc hN1 _
 have INV:Hid (PSInv N σ w t ts nl tn F nm xs (w1.heap.size+1) (w1.heap.size+1+1) ts.length (.slice (some ⟨w1.heap.size+1+1+1,0,none⟩) 1 1) ((((w1.alloc (Obj.cells (t.cells σ.T) 153)).alloc (Obj.cells (Tk.pos σ.T t.s) 134)).alloc (Obj.cells (Tk.pos σ.T t.e) 134)).alloc (Obj.cells #[Value.string (txtOf σ.T t)] 9))):=by
   refine hide ⟨[],ts,t1,trest,rfl,rfl,HTS.out,A1.out.keptT kk id id,?_,?_,c4',?_,?_⟩
   · simpa using c2'
   · simpa [lastTk] using c3'
   · exact (K1.out.mono (fun u h=>Or.inl h)).trans (kk.mono (fun _ h=>h.elim))
   · exact (HF.out.keptT K1.out (by decide) (by decide)).keptT kk id id
 change Code.wp _ _ _ _ ((((w1.alloc (Obj.cells (t.cells σ.T) 153)).alloc (Obj.cells (Tk.pos σ.T t.s) 134)).alloc (Obj.cells (Tk.pos σ.T t.e) 134)).alloc (Obj.cells #[Value.string (txtOf σ.T t)] 9))
 generalize ((((w1.alloc (Obj.cells (t.cells σ.T) 153)).alloc (Obj.cells (Tk.pos σ.T t.s) 134)).alloc (Obj.cells (Tk.pos σ.T t.e) 134)).alloc (Obj.cells #[Value.string (txtOf σ.T t)] 9))=W at INV ⊢
 clear c1 c2 c3 c2' c3' c4' kk
 have hb3w:w.heap.size≤w1.heap.size+1:=by omega
 generalize w1.heap.size+1=b3 at INV hb3w ⊢
 go_loopg [5] ts.length (fun k v5 wr=>Hid (PSInv N σ w t ts nl tn F nm xs b3 (b3+1) k v5 wr))
 case atStart=>exact INV
 case round =>
   obtain ⟨pre,rest,c,cs,hpr,hgk,hrc,hatc,hB3,hB4,hown,hkt,hF2⟩:=hrel.out
   clear hrel INV
   have hcs:∃ d ds,cs=d :: ds∧TokAt σ.T c.e d:=by
     have h1:=HC.out
     rw [hpr,List.append_assoc,hrc] at h1
     cases cs with
     | nil =>
       cases rest with
       | nil=>simp at hrc
       | cons a b=>cases b <;> simp at hrc
     | cons d ds=>exact ⟨d,ds,rfl,Chain.mid h1⟩
   obtain ⟨d,ds,rfl,htd⟩:=hcs
   have HPR:=hide hpr
   have HGK:=hide hgk
   have HRC:=hide hrc
   have HAC:=hide hatc
   have HTD:=hide htd
   have HB3:=hide hB3
   have HB4:=hide hB4
   have HO:=hide hown
   have HK:=hide hkt
   have HF2:=hide hF2
   clear hpr hgk hrc hatc htd hB3 hB4 hown hkt hF2
   go_wp2_with fail
   refine (lex_at N σ _ c d HAC.out HTD.out (HP.out.keptT HK.out hP) hP hN).mono ?_
   rintro e w2 ⟨rfl,hat2,hk2⟩
   have HA2:=hide hat2
   have HK2:=hide hk2
   clear hat2 hk2
   unfold Tk.val
   rcases Nat.eq_zero_or_pos gk with h0 | h0
   · subst h0
     have hr:c=nl∧d=tn∧ts=pre:=by
       have h1:=HGK.out
       have h2:=HRC.out
       have h3:=HPR.out
       have:rest=[]:=List.eq_nil_of_length_eq_zero h1
       subst this
       simp at h2 h3
       exact ⟨h2.1.symm,h2.2.1.symm,h3⟩
     obtain ⟨rfl,rfl,rfl⟩:=hr
     have hc10:c.k=10:=HNL.out
     rw [hc10]
     clear hc10
     have hpos:=HB3.out.keptT HK2.out (by decide)
     have hpos2:=HB4.out.keptT HK2.out (by decide)
     obtain ⟨v,hfb,hfo⟩:=HF2.out.keptT HK2.out (by decide) (by decide)
     have hwsz:w.heap.size≤w2.heap.size:=by have:=HK2.out.size;have:=HK.out.size;omega
     have ktot:Kt N Stmt3 w (w2.alloc (Obj.cells (c.cells σ.T) 153)):=(HK.out.trans (HK2.out.mono (fun u h=>Or.inl h))).alloc hNw _
     have hpos':=hpos.alloc (Obj.cells (c.cells σ.T) 153)
     have hpos2':=hpos2.alloc (Obj.cells (c.cells σ.T) 153)
     have hfb':=hfb.alloc (Obj.cells (c.cells σ.T) 153)
     have hfo':=hfo.alloc (Obj.cells (c.cells σ.T) 153)
     have hat':At (w2.alloc (Obj.cells (c.cells σ.T) 153)) σ d:=HA2.out.keptT (Kt.alloc (Kt.refl _ (fun _=>False) _) (Nat.le_trans hNw hwsz) _) id id
     obtain ⟨rg,rcap,rfl⟩:=owns_form HO.out
     have hto':=(ownsRow_keptT HO.out HK2.out (by decide)).alloc (Obj.cells (c.cells σ.T) 153)
     have hcell:Tk.cells c σ.T=#[Value.int IntKind.i64 10,Value.int IntKind.i64 ↑(lineAt σ.T c.s),Value.int IntKind.i64 ↑(colAt σ.T c.s),Value.int IntKind.i64 ↑c.s,Value.int IntKind.i64 ↑(lineAt σ.T c.e),Value.int IntKind.i64 ↑(colAt σ.T c.e),Value.int IntKind.i64 ↑c.e,Value.string (txtOf σ.T c)]:=by
       unfold Tk.cells;rw [HNL.out]
     have hwv:w.heap.size≤(w2.alloc (Obj.cells (c.cells σ.T) 153)).heap.size:=by simp;omega
     rw [hcell] at hpos' hpos2' hfb' hfo' hat' hto' ktot hwv
     clear hcell hpos hpos2 hfb hfo
     go_wp2_with fail
     refine (isEOL_nl _).mono ?_
     rintro e w' ⟨rfl,rfl⟩
     go_wp2_with fail
     generalize w2.alloc (Obj.cells #[Value.int IntKind.i64 10,Value.int IntKind.i64 ↑(lineAt σ.T c.s),Value.int IntKind.i64 ↑(colAt σ.T c.s),Value.int IntKind.i64 ↑c.s,Value.int IntKind.i64 ↑(lineAt σ.T c.e),Value.int IntKind.i64 ↑(colAt σ.T c.e),Value.int IntKind.i64 ↑c.e,Value.string (txtOf σ.T c)] 153)=Wv at hpos' hpos2' hfb' hfo' hat' hto' ktot hwv ⊢
     obtain ⟨csB,hBB,hB16⟩:∃ cs,Blk Wv σ.B 155 cs∧cs[16]?=some (.pointer (some ⟨F,0,none⟩)):=by
       obtain ⟨q,ts,_,hx⟩:=hat'
       exact ⟨_,hx.blk,by simp [Lx.cells,Lx.lexed,hfile]⟩
     have q16:Wv.cell? ⟨σ.B,16,none⟩=some (.pointer (some ⟨F,0,none⟩)):=hBB.cell 16 hB16
     have m1:F≠σ.B:=hfb'.ne hBB (by decide)
     have m2:F≠b3:=hfb'.ne hpos' (by decide)
     have m3:F≠b3+1:=hfb'.ne hpos2' (by decide)
     have q4:Wv.cell? ⟨F,4,none⟩=some v:=hfb'.cell 4 rfl
     have qs0:Wv.cell? ⟨b3,0,none⟩=some (.int .i64 (lineAt σ.T t.s:Nat)):=hpos'.cell 0 rfl
     have qe0:Wv.cell? ⟨b3+1,0,none⟩=some (.int .i64 (lineAt σ.T (lastTk t ts).e:Nat)):=hpos2'.cell 0 rfl
     have qs1:Wv.cell? ⟨b3,1,none⟩=some (.int .i64 (colAt σ.T t.s:Nat)):=hpos'.cell 1 rfl
     have qe1:Wv.cell? ⟨b3+1,1,none⟩=some (.int .i64 (colAt σ.T (lastTk t ts).e:Nat)):=hpos2'.cell 1 rfl
     have qs2:Wv.cell? ⟨b3,2,none⟩=some (.int .i64 (t.s:Nat)):=hpos'.cell 2 rfl
     have qe2:Wv.cell? ⟨b3+1,2,none⟩=some (.int .i64 ((lastTk t ts).e:Nat)):=hpos2'.cell 2 rfl
     have n1:=World.new_ne Wv _ q16
     have n2:=World.new_ne Wv _ q4
     have n3:=World.new_ne Wv _ qs0
     have n4:=World.new_ne Wv _ qe0
     simp only at n1 n2 n3 n4
     have ff:∀ j,Wv.frozen? ⟨F,j,none⟩=false:=fun j=>hfb'.free j
     have lF:=hfb'.lt
     have lB:=World.block_lt_of_cell? Wv _ q16
     have l3:=hpos'.lt
     have l4:=hpos2'.lt
     simp only at lB
     have Hpos:=hide hpos'
     have Hpos2:=hide hpos2'
     have HFb:=hide hfb'
     have HFo:=hide hfo'
     have HAt:=hide hat'
     have HTo:=hide hto'
     have HKt:=hide ktot
     clear hpos' hpos2' hfb' hfo' hat' hto' ktot
     obtain ⟨i1,hi1,hy0,hy1,hy2⟩:=info_parts Tryz.infoExpr
     have hm1:xs.length+1≤maxLen:=by unfold maxLen;omega
     have hm2:(xs.length+1) * 16≤140737488355328:=by omega
     have HBB:=hide hBB
     clear hBB
     have hNv:N≤Wv.heap.size:=Nat.le_trans hNw hwv
     change Code.wp _ (Code.region _ #[_,_,_,_,_,_,_,_,_,_,id _,_,_,_,_,_,_,_,_,_,_,_] _) _ _ _
     go_region_held3 (fun w'=>w'.cell? ⟨σ.B,16,none⟩=some (.pointer (some ⟨F,0,none⟩)) ∧
         w'.cell? ⟨b3,0,none⟩=some (.int .i64 (lineAt σ.T t.s:Nat))∧w'.cell? ⟨b3,1,none⟩=some (.int .i64 (colAt σ.T t.s:Nat))∧w'.cell? ⟨b3,2,none⟩=some (.int .i64 (t.s:Nat)) ∧
         w'.cell? ⟨b3+1,0,none⟩=some (.int .i64 (lineAt σ.T (lastTk t ts).e:Nat))∧w'.cell? ⟨b3+1,1,none⟩=some (.int .i64 (colAt σ.T (lastTk t ts).e:Nat))∧w'.cell? ⟨b3+1,2,none⟩=some (.int .i64 ((lastTk t ts).e:Nat)))
       (go_keep)
       ((refine step_append_lies _ (by rfl) _ _ _ (by rfl) N 131 i1 _ 1 16 Tryz.und_exprs hi1 hy0 hy1 hy2 rfl (by omega) v xs.length xs (by rfl) (by repeat (first | exact HFo.out | apply World.ownsRow.alloc | apply World.ownsRow.drew)) ⟨Wv.heap.size+1,0,none⟩ 1 1 [lineV Wv.heap.size] (by rfl) (by rfl) (news_two _ _ _ _) (by simp [Value.oneCell',lineV]) (by omega) hm1 hm2 (by simp;omega) (Wv.heap.size+1+1) (by simp) ?_;intro gg cap w3 hown3 hgrow3 hat3 hlt3;have hk3:=ps_append2 _ _ HFo.out hNv hgrow3;have hLn:=((Blk.new Wv.drew _ _).alloc _).keptT (Kt.of_append ((HFo.out.drew.alloc _).alloc _) hgrow3 (by simp;omega)) (by decide);clear hgrow3 hat3 hlt3;have r16:=(HBB.out.keptT hk3 (by decide)).cell 16 hB16;have rF:=HFb.out.keptT hk3 (by decide);have r4:w3.cell? ⟨F,4,none⟩=some v:=rF.cell 4 rfl;have rfr:∀ j,w3.frozen? ⟨F,j,none⟩=false:=fun j=>rF.free j;have rp:=Hpos.out.keptT hk3 (by decide);have rp2:=Hpos2.out.keptT hk3 (by decide);have s0:w3.cell? ⟨b3,0,none⟩=some (.int .i64 (lineAt σ.T t.s:Nat)):=rp.cell 0 rfl;have s1:w3.cell? ⟨b3,1,none⟩=some (.int .i64 (colAt σ.T t.s:Nat)):=rp.cell 1 rfl;have s2:w3.cell? ⟨b3,2,none⟩=some (.int .i64 (t.s:Nat)):=rp.cell 2 rfl;have u0:w3.cell? ⟨b3+1,0,none⟩=some (.int .i64 (lineAt σ.T (lastTk t ts).e:Nat)):=rp2.cell 0 rfl;have u1:w3.cell? ⟨b3+1,1,none⟩=some (.int .i64 (colAt σ.T (lastTk t ts).e:Nat)):=rp2.cell 1 rfl;have u2:w3.cell? ⟨b3+1,2,none⟩=some (.int .i64 ((lastTk t ts).e:Nat)):=rp2.cell 2 rfl;have HK3:=hide hk3;have HOWN3:=hide hown3;have HLN:=hide hLn;have HRF:=hide rF;clear hk3 hown3 hLn rF rp rp2))
     all_goals go_wp2_with fail
     all_goals go_returns
     all_goals
       have kend:Kt N (fun u=>u=129∨u=131) Wv (w3.setCell ⟨F,4,none⟩ (.slice (some ⟨gg,0,none⟩) (xs.length+1) cap)):=by
         refine Kt.set_blk ?_ hNF HFb.out (Or.inl rfl)
         exact HK3.out.mono (fun _ h=>Or.inr h)
       have kf:Kt N (fun u=>u=129) w3 (w3.setCell ⟨F,4,none⟩ (.slice (some ⟨gg,0,none⟩) (xs.length+1) cap)):=by
         refine Kt.set_blk ?_ hNF HRF.out rfl
         exact Kt.refl _ _ _
       have hFL:F≠Wv.heap.size:=by omega
       refine ⟨rfl,HAt.out.keptT kend (by decide) (by decide),HKt.out.trans (kend.mono (fun _ h=>Or.inr h)),Wv.heap.size,hwv,⟨_,HLN.out.set_other (by simpa using hFL.symm) _,own_low (ownsRow_keptT HTo.out kend (by decide)) hNw⟩,_,HRF.out.set 4 _,?_⟩
       have:=ownsRow_keptT HOWN3.out kf (by decide)
       simpa using this
   · have hcw:Word c:=by
       have h1:=HGK.out
       have h2:=HRC.out
       cases rest with
       | nil=>simp at h1;omega
       | cons u rest' =>
         simp at h2
         exact h2.1 ▸ HW.out u (by rw [HPR.out];simp)
     have f1:(c.k == -1)=false:=by rcases hcw with h | h <;> rw [h] <;> rfl
     have f2:(c.k == -2)=false:=by rcases hcw with h | h <;> rw [h] <;> rfl
     have f10:(c.k == 10)=false:=by rcases hcw with h | h <;> rw [h] <;> rfl
     have f40:(c.k == 40)=false:=by rcases hcw with h | h <;> rw [h] <;> rfl
     have HCW:=hide hcw
     clear hcw
     have hNr:w.heap.size≤w2.heap.size:=by have:=HK2.out.size;have:=HK.out.size;omega
     have hpl:pre.length≤1000000:=by have:=congrArg List.length HPR.out;simp at this;omega
     have hO2:=ownsRow_keptT HO.out HK2.out (by decide)
     have HO2:=hide hO2
     clear hO2
     go_wp2_with fail
     refine (isEOL_no _ _ f1 f2 f10).mono ?_
     rintro e w' ⟨rfl,rfl⟩
     have hm1:pre.length+1+1≤maxLen:=by unfold maxLen;omega
     have hm2:(pre.length+1+1) * 16≤140737488355328:=by omega
     have hm3:∀ (a b:Obj),w.heap.size≤((w2.alloc a).alloc b).heap.size:=fun a b=>by simp;omega
     have hm4:∀ (a b:Obj),((w2.alloc a).alloc b).heap.size=w2.heap.size+1+1:=fun a b=>by simp
     have hm5:∀ u ∈ [Value.string (txtOf σ.T c)],u.oneCell'=true:=by simp [Value.oneCell']
     have M:=hide (And.intro hm1 (And.intro hm2 (And.intro hm3 (And.intro hm4 hm5))))
     clear hm1 hm2 hm3 hm4 hm5
     go_wp2_with (at_builtin;refine wpList_append_lies _ rfl _ _ _ rfl w.heap.size 9 i0 _ 1 16 Tryz.und_strs hi0 hz0 hz1 hz2 rfl (by omega) _ _ _ (by rfl) ((HO2.out.alloc _).alloc _) ⟨w2.heap.size+1,0,none⟩ 1 1 [.string (txtOf σ.T c)] (by rfl) (by rfl) (news_two _ _ _ _) M.out.2.2.2.2 (by omega) M.out.1 M.out.2.1 (M.out.2.2.1 _ _) (w2.heap.size+1+1) (M.out.2.2.2.1 _ _) ?_;intro g cap w3 hown3 hgrow3 hat3 hlt3;obtain ⟨hk3,ht3,hp3⟩:=ps_append HO2.out hNr hgrow3 (HB4.out.keptT HK2.out (by decide));clear hgrow3 hat3 hlt3;have e4:w3.cell? ⟨w2.heap.size,4,none⟩=some (.int .i64 (lineAt σ.T c.e:Nat)):=ht3.cell 4 rfl;have e5:w3.cell? ⟨w2.heap.size,5,none⟩=some (.int .i64 (colAt σ.T c.e:Nat)):=ht3.cell 5 rfl;have e6:w3.cell? ⟨w2.heap.size,6,none⟩=some (.int .i64 (c.e:Nat)):=ht3.cell 6 rfl;have p0:w3.cell? ⟨b3+1,0,none⟩=some (.int .i64 (lineAt σ.T (lastTk t pre).e:Nat)):=hp3.cell 0 rfl;have p1:w3.cell? ⟨b3+1,1,none⟩=some (.int .i64 (colAt σ.T (lastTk t pre).e:Nat)):=hp3.cell 1 rfl;have p2:w3.cell? ⟨b3+1,2,none⟩=some (.int .i64 ((lastTk t pre).e:Nat)):=hp3.cell 2 rfl;have pf:∀ j,w3.frozen? ⟨b3+1,j,none⟩=false:=fun j=>hp3.free j;have HP3:=hide hp3;have HK3:=hide hk3;have HOWN3:=hide hown3;clear hp3 hk3 hown3 ht3)
     go_roundg (gk - 1)
     case measure=>omega
     case rel =>
       have hr:∃ rest',rest=c :: rest'∧rest'++[nl,tn]=d :: ds:=by
         have h1:=HGK.out
         have h2:=HRC.out
         cases rest with
         | nil=>simp at h1;omega
         | cons u rest' =>
           simp only [List.cons_append,List.cons.injEq] at h2
           exact ⟨rest',by rw [h2.1],h2.2⟩
       obtain ⟨rest',hr1,hr2⟩:=hr
       have hb42:=HB4.out.keptT HK2.out (by decide)
       have hN2:w.heap.size≤b3+1:=by omega
       have kall:Kt w.heap.size (fun u=>u=9∨u=134) w2 (((w3.setCell ⟨b3+1,0,none⟩ (Value.int IntKind.i64 ↑(lineAt σ.T c.e))).setCell ⟨b3+1,1,none⟩ (Value.int IntKind.i64 ↑(colAt σ.T c.e))).setCell ⟨b3+1,2,none⟩ (Value.int IntKind.i64 ↑c.e)) :=
         by
           refine Kt.set_blk ?_ hN2 hb42 (Or.inr rfl)
           refine Kt.set_blk ?_ hN2 hb42 (Or.inr rfl)
           refine Kt.set_blk ?_ hN2 hb42 (Or.inr rfl)
           exact HK3.out.mono (fun _ h=>Or.inl h)
       have k3:Kt w.heap.size (fun u=>u=134) w3 (((w3.setCell ⟨b3+1,0,none⟩ (Value.int IntKind.i64 ↑(lineAt σ.T c.e))).setCell ⟨b3+1,1,none⟩ (Value.int IntKind.i64 ↑(colAt σ.T c.e))).setCell ⟨b3+1,2,none⟩ (Value.int IntKind.i64 ↑c.e)) :=
         by
           refine Kt.set_blk ?_ hN2 HP3.out rfl
           refine Kt.set_blk ?_ hN2 HP3.out rfl
           refine Kt.set_blk ?_ hN2 HP3.out rfl
           exact Kt.refl _ _ _
       have hl:lastTk t (pre++[c])=c:=by simp [lastTk]
       refine hide ⟨pre++[c],rest',d,ds,by rw [HPR.out,hr1];simp,by have:=HGK.out;rw [hr1] at this;simp at this;omega,hr2,HA2.out.keptT kall (by decide) (by decide),?_,?_,?_,?_,?_⟩
       · have:=(HB3.out.keptT HK2.out (by decide)).keptT HK3.out (by decide)
         exact ((this.set_other (by simp) _).set_other (by simp) _).set_other (by simp) _
       · rw [hl]
         exact ((HP3.out.set 0 _).set 1 _).set 2 _
       · have:=ownsRow_keptT HOWN3.out k3 (by decide)
         simpa using this
       · exact (HK.out.trans (HK2.out.mono (fun u h=>Or.inl h))).trans_low kall (Nat.le_refl _) hNw
       · exact (HF2.out.keptT HK2.out (by decide) (by decide)).keptT kall (by decide) (by decide)
end
end Go.Proofs.YtifkpibjeamfkaaGreatFmt
