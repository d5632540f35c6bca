/-
  readToken at a comment: what the table of spaces says of the stretch ahead of it decides its kind.
-/
import Derived.Test.YtifkpibjeamfkaaGreatFmtZ13
import Derived.Test.YtifkpibjeamfkaaGreatFmtZ07
import Derived.Lib.SlBytesConst
import Derived.Lib.SmallJoins
import Derived.Deep.RegionHeld3
set_option linter.unusedVariables false
set_option linter.unusedSimpArgs false
set_option maxRecDepth 100000
namespace Go.Proofs.YtifkpibjeamfkaaGreatFmt
section
open Go.RowKit Go.Proofs
theorem cell_new0 (W:World) (cs:Array Value) (e:TypeId) (fz:Nat × Nat):(W.alloc (Obj.cells cs e fz)).cell? ⟨W.heap.size,0,none⟩=cs[0]?:=by
 have h:(W.alloc (Obj.cells cs e fz)).heap=W.heap.push (Obj.cells cs e fz):=rfl
 simp only [World.cell?,h,Array.getElem?_push_size]
 rfl
theorem Tryz.und_u8s':Tryz.prog.underlying 69=some (.slice 5):=by kernel_rfl
theorem Tryz.infoCom:(Tryz.prog.info? 194).map (fun i=>(i.zero.map (fun z=>z.cells.size),i.size,i.bytes))=some (some 5,5,48):=by kernel_rfl
theorem Tryz.und_coms:Tryz.prog.underlying 124=some (.slice 194):=by kernel_rfl
def lineS (T:List UInt8) (n:Nat):Nat:=(lastNL T n+1).toNat
theorem lineS_le (T:List UInt8) (n:Nat):lineS T n≤n∧(lineS T n:Int)=lastNL T n+1:=by
 have:=lastNL_bd T n
 unfold lineS
 omega
structure ComB (T:List UInt8) (s e:Nat):Prop where
 h2:s+3≤e
 he:e≤T.length
 c0:ch T s=47
 c1:ch T (s+1)=47
 body:∀ i,s+2≤i→i < e - 1→ch T i≠10
 last:ch T (e - 1)=10
 prev:ch T (e - 2)≠13
theorem LxAt.tx {w:World} {σ:Lx} (h:LxAt w σ):TxtAt w σ.D σ.C σ.T:=⟨h.txt,h.ascii,h.hn,h.hC,h.hT,h.dat⟩
theorem TxtAt.kp {w W:World} {D C:Nat} {T:List UInt8} {X:Nat→Prop} (h:TxtAt w D C T) (k:Kp X w W) (hx:¬ X D):TxtAt W D C T:=by
 obtain ⟨cs,fz,e⟩:=h.dat
 have hD:D < w.heap.size:=(Array.getElem?_eq_some_iff.1 e).1
 exact ⟨fun j hj=>(World.cell?_of_block (w:=w) (k.block D hD hx)).trans (h.cell j hj),h.ascii,h.hn,h.hC,h.hT,⟨cs,fz,(k.block D hD hx).trans e⟩⟩
theorem OpTab.kp {w w':World} {g:Nat} {f:Nat→Int} {X:Nat→Prop} (h:OpTab w g f) (k:Kp X w w') (hx:¬ X g):OpTab w' g f:=fun c hc=>by
 have hlt:g < w.heap.size:=World.block_lt_of_cell? w _ (h 0 (by omega))
 exact (World.cell?_of_block (w:=w) (a:=⟨g,c,none⟩) (k.block _ hlt hx)).trans (h c hc)
theorem OpTab.drewN {w:World} {g:Nat} {f:Nat→Int} (h:OpTab w g f) (n:Nat):OpTab (w.drewN n) g f:=h
def LexS (com:Value):Nat→TypeId→Prop:=fun k t=>t=155∨(t=194∧com.ownBlock=some k)
theorem Ku.of_kp {N:Nat} {S:Nat→TypeId→Prop} {X:Nat→Prop} {w w':World} (h:Kp X w w') (hN:N≤w.heap.size) (hx:∀ k,X k→N≤k) (hs:∀ (k:Nat) (cs:Array Value) (t:TypeId) (fz:Nat × Nat),X k→w.heap[k]?=some (Obj.cells cs t fz)→S k t):Ku N S w w':=by
 refine ⟨h.below hN hx,fun k cs t fz e hn=>?_⟩
 have hk:k < w.heap.size:=(Array.getElem?_eq_some_iff.1 e).1
 exact (h.block k hk (fun hX=>hn (hs k cs t fz hX e))).trans e
theorem CmAt.blockNe {N:Nat} {w:World} {v:Value} {cs:List Cmt} {b:Nat} {t:TypeId} {ds:Array Value} (h:CmAt N w v cs) (hb:Blk w b t ds) (ht:t≠194) (e:v.ownBlock=some b):False:=by
 rcases h.1.2 with ⟨rfl,_⟩ | ⟨g,cap,cur,rfl,hg,hh,r⟩
 · simp [Value.ownBlock] at e
 · simp only [Value.ownBlock,Option.some.injEq] at e
   subst e
   have h1:=hb.out
   rw [hh] at h1
   injection h1 with h1
   injection h1 with _ h1
   exact ht h1.symm
theorem CmAt.datNe {N:Nat} {w:World} {v:Value} {cs:List Cmt} {b:Nat} (h:CmAt N w v cs) (hb:∃ ds fz,w.heap[b]?=some (.cells ds 5 fz)) (e:v.ownBlock=some b):False:=by
 rcases h.1.2 with ⟨rfl,_⟩ | ⟨g,cap,cur,rfl,hg,hh,r⟩
 · simp [Value.ownBlock] at e
 · simp only [Value.ownBlock,Option.some.injEq] at e
   subst e
   obtain ⟨ds,fz,h1⟩:=hb
   rw [hh] at h1
   injection h1 with h1
   injection h1 with _ h1
   exact absurd h1 (by decide)
theorem LxAt.kp {w W:World} {σ:Lx} {X:Nat→Prop} (h:LxAt w σ) (k:Kp X w W) (h1:¬ X σ.B) (h2:¬ X σ.D):LxAt W σ:=by
 have t:=h.tx.kp k h2
 exact ⟨h.blk.kept k h1,t.cell,h.ascii,h.hp,h.hn,h.hC,h.hT,h.hq,t.dat⟩
theorem seg_len_le (T:List UInt8) (s e:Nat) {M:Nat} (h:T.length≤M):(seg T s e).length≤M:=by
 simp only [seg,List.length_take,List.length_drop];omega
theorem seg_asc {T:List UInt8} (h:∀ j,ch T j < 128) (s e:Nat):∀ x ∈ seg T s e,x.toNat < 128:=by
 intro x hx
 have hm:x ∈ T:=List.mem_of_mem_drop (List.mem_of_mem_take hx)
 obtain ⟨i,hi,rfl⟩:=List.getElem_of_mem hm
 have:=h i
 simpa [ch,List.getD_eq_getElem?_getD,List.getElem?_eq_getElem hi] using this
theorem com_kp {N:Nat} {w w3:World} {v:Value} {cs:List Cmt} {o:Obj} (h:CmAt N w v cs) (hg:(w.drew.alloc o).grownBy w3 v.ownBlock):Kp (fun k=>some k=v.ownBlock∨w.heap.size≤k) w w3:=by
 have h0:Kp (fun k=>some k=v.ownBlock∨w.heap.size≤k) w (w.drew.alloc o):=(Kp.refl _ w).drew.alloc o
 exact h0.grown hg (fun k e _=>Or.inl e.symm)
theorem com_grown {N:Nat} {w w3:World} {v:Value} {cs:List Cmt} {o:Obj} (h:CmAt N w v cs) (hN:N≤w.heap.size) (hg:(w.drew.alloc o).grownBy w3 v.ownBlock):Ku N (LexS v) w w3:=by
 have h0:Ku N (LexS v) w (w.drew.alloc o):=(Ku.refl N _ w).drew.alloc hN o
 refine h0.trans' (Ku.of_append (S:=LexS v) ((h.1.drew).alloc o) hg (by simp;omega) (fun g e=>Or.inr ⟨rfl,e⟩)) (fun _ _ _ x=>x)
theorem LxAt.setCom {w:World} {σ:Lx} (h:LxAt w σ) (v:Value):LxAt (w.setCell ⟨σ.B,15,none⟩ v) { σ with com:=v }:=by
 refine ⟨(h.blk.set 15 v).eq (by simp [Lx.cells]),fun j hj=>?_,h.ascii,h.hp,h.hn,h.hC,h.hT,h.hq,?_⟩
 · have:=h.txt j hj
   rw [World.cell?_setCell_far _ _ _ _ (by intro e;exact h.ne e.symm)]
   exact this
 · obtain ⟨cs,fz,e⟩:=h.dat
   exact ⟨cs,fz,(Below.heap_setCell _ _ _ _ h.ne).trans e⟩
def LexedC (N:Nat) (w:World) (σ:Lx) (cs:List Cmt) (s e:Nat) (en:Ending) (w':World):Prop :=
 ∃ q ts com',en=.returned (.tuple #[])∧IsSl ts∧LxAt w' (({ σ with com:=com' }:Lx).lexed q ts (-2) s e (mkS (seg σ.T s (e - 1)))) ∧
   CmAt N w' com' (cs++[⟨(lineAt σ.T s:Nat),(colAt σ.T s:Nat),(s:Nat),seg σ.T s (e - 1),true⟩])∧Ku N (LexS σ.com) w w'∧Fresh w σ.com com'
set_option maxHeartbeats 4000000 in
theorem readToken_comN (σ:Lx) (w:World) (s e:Nat) (f:Nat→Int) (ta:Option Addr) (tl tc:Nat) (h:LxAt w σ) (hts:IsSl σ.ts) (hps:σ.p≤s) (hws:∀ i,σ.p≤i→i < s→ch σ.T i=32∨ch σ.T i=9)
   (hcb:ComB σ.T s e) (hf:OpTab w 2 f) (hB:2 < σ.B)
   (htr:∀ W,TxtAt W σ.D σ.C σ.T→OpTab W 2 f→Calls Tryz.prog 90 #[.slice (some ⟨σ.D,lineS σ.T s,none⟩) (s - lineS σ.T s) (σ.C - lineS σ.T s)] W fun e w'=>e=.returned (.slice none 0 0)∧w'=W) :
   Calls Tryz.prog 59 #[.pointer (some ⟨σ.B,0,none⟩)] w (Lexed w σ (-5) s e (mkS (seg σ.T s (e - 1)))):=by
 have hp:=h.hp
 have HCB:=hide hcb
 have HF:=hide hf
 have HTR:=hide htr
 have hse:=hcb.he
 have hs2:=hcb.h2
 clear hcb hf htr
 obtain ⟨d,rfl⟩:∃ d,e=d+1:=⟨e - 1,by omega⟩
 go_enter Tryz.func59,Tryz.ntmps59
 go_wp2
 go_loopg [2,3,4] (s - σ.p) (fun k _ _ _ wr=>Hid (∃ j q,σ.p≤j∧j+k=s∧LxAt wr (σ.go j q)∧Kp (fun i=>i=σ.B) w wr))
 case atStart=>exact hide ⟨σ.p,σ.q,Nat.le_refl _,by omega,h,Kp.refl _ _⟩
 case round =>
   obtain ⟨j,q,hj,hjk,hx,hkp⟩:=hrel.out
   clear hrel
   have hb:(((σ.T.length - j:Nat):Int) == 0)=false:=by simp;omega
   have hl:(σ.go j q).p < (σ.go j q).T.length:=by show j < σ.T.length;omega
   rcases Nat.eq_zero_or_pos gk with h0 | h0
   · subst h0
     obtain rfl:j=s:=by omega
     go_wp2_with (first
       | (go_at_call 84;refine (eof_at (σ.go j q) _ hx _ hb).mono ?_;rintro e w' ⟨rfl,rfl⟩)
       | (go_at_call 85;refine (peekRune_at (σ.go j q) _ hx hl 47 HCB.out.c0).mono ?_;rintro e w' ⟨rfl,rfl⟩)
       | fail)
     refine (peekPrefix_yes' (σ.go j q) _ hx (show j+1 < σ.T.length by omega) HCB.out.c0 HCB.out.c1).mono ?_
     rintro e1 w1 ⟨rfl,hx,hk1⟩
     have hkp:=hkp.trans hk1
     clear hk1
     go_wp2_with fail
     refine (startToken_at (σ.go j q) _ hx hts).mono ?_
     rintro e1 w2 ⟨rfl,hx1,hk1⟩
     have hkp:=hkp.trans hk1
     have hqj:q=j:=hx.hq (by have:=h.hn;show j < σ.C;omega)
     have HQJ:=hide hqj
     clear hk1 hx hqj
     have HX1:=hide hx1
     have HKP:=hide hkp
     have q1:w2.cell? ⟨σ.B,1,none⟩=some (.slice (some ⟨σ.D,0,none⟩) σ.T.length σ.C):=hx1.c1
     have q14:w2.cell? ⟨σ.B,14,none⟩=some (.int .i64 (j:Nat)):=hx1.c14
     have r1:(0:Int)≤(j:Int):=by omega
     have r2:(j:Int)≤(σ.C:Int):=by have:=h.hn;omega
     have hD:σ.D < w2.heap.size:=hx1.hD
     have hBl:σ.B < w2.heap.size:=hx1.blk.lt
     have hcv:(convert 69 69 (.slice (some ⟨w2.heap.size,0,none⟩) 1 1)).run Tryz.prog ((w2.alloc (Obj.cells #[Value.int .u8 10] 5)).drew)=.ok (.slice (some ⟨w2.heap.size,0,none⟩) 1 1) ((w2.alloc (Obj.cells #[Value.int .u8 10] 5 (1,2))).drew):=Go.Joins.run_convert_bytes_const_at w2.drew 69 5 #[Value.int .u8 10] 1 1 w2.heap.size rfl Tryz.und_u8s' (by kernel_rfl)
     have hb1:Below w2.heap.size w2 ((w2.alloc (Obj.cells #[Value.int .u8 10] 5 (1,2))).drew):=((Below.refl _ w2).alloc (Nat.le_refl _) _).drew
     have hk2:=Kp.of_below (X:=fun _=>False) hb1
     have HLI:=hide (lastIndex_nl σ.T σ.D j σ.C w2.heap.size 1 ((w2.alloc (Obj.cells #[Value.int .u8 10] 5 (1,2))).drew) (fun i hi=>by
       have:=hx1.txt i (show i < σ.T.length by omega)
       rw [World.cell?_of_block (w:=w2) (hk2.block _ hD (fun h=>h))]
       exact this) (by have:=h.hT;omega) (cell_new0 w2 _ _ _))
     have HK2:=hide hb1
     clear hk2 hb1
     clear hx1 hkp
     go_wp2_with fail
     change Code.wp _ (Code.region _ #[_,_,_,_,_,_,_,_,_,_,_,id _,_,_] _) _ _ _
     go_region_held3 (fun w'=>w'.cell? ⟨σ.B,1,none⟩=some (.slice (some ⟨σ.D,0,none⟩) σ.T.length σ.C)∧w'.cell? ⟨σ.B,14,none⟩=some (.int .i64 (j:Nat))) (go_keep)
       ((go_fit HLI.out;rintro e w3 ⟨rfl,rfl⟩))
     have HLB:=hide (lineS_le σ.T j)
     have hk2:=Kp.of_below (X:=fun _=>False) HK2.out
     have hx1:LxAt ((w2.alloc (Obj.cells #[Value.int .u8 10] 5 (1,2))).drew) (σ.go j q).started:=by
       refine HX1.out.keptU (Ku.of_below (N:=w2.heap.size) (S:=fun _ _=>False) HK2.out (Nat.le_refl _)) id id
     have hkp:=HKP.out.trans (Kp.of_below HK2.out)
     generalize (w2.alloc (Obj.cells #[Value.int .u8 10] 5 (1,2))).drew=W3 at hx1 hkp ⊢
     clear hcv HLI HK2 hk2 HX1 HKP q1 q14 hD hBl
     have p1:W3.cell? ⟨σ.B,1,none⟩=some (.slice (some ⟨σ.D,0,none⟩) σ.T.length σ.C):=hx1.c1
     have p14:W3.cell? ⟨σ.B,14,none⟩=some (.int .i64 (j:Nat)):=hx1.c14
     have htx:=hx1.tx
     have hof:OpTab W3 2 f:=HF.out.kp hkp (by intro e;have:2=σ.B:=e;omega)
     have HC3:=hide (fun n=>HTR.out (W3.drewN n) (hx1.drewN n).tx (hof.drewN n))
     have HX1:=hide hx1
     have HKP:=hide hkp
     clear hx1 hkp htx hof
     obtain ⟨m,hm⟩:∃ m,lineS σ.T j=m:=⟨_,rfl⟩
     rw [hm] at HC3 HLB
     have hmj:m≤j:=HLB.out.1
     have hml:lastNL σ.T j=(m:Int) - 1:=by have:=HLB.out.2;omega
     rw [hml]
     clear hml hm
     have s0:IntKind.i64.wrap (m:Int)=(m:Int):=IntWalk.i64_in _ (by have:=h.hT;omega)
     have s2:(m:Int)≤(j:Int):=by omega
     have s4:(0:Int)≤(m:Int):=by omega
     have s5:(0:Int) < (tl:Int)+1:=by omega
     have s3:¬ σ.C=m:=by have:=h.hn;omega
     go_wp2_with fail
     go_quiet ((go_at_call 90;exact Calls.quiet_of_same (HC3.out _)))
     have hkp:=HKP.out.drewN nq
     have hx1:=HX1.out.drewN nq
     generalize W3.drewN nq=W4 at hx1 hkp ⊢
     clear HC3 HX1 HKP p1 p14
     go_wp2_with fail
     refine (readRune_c _ _ hx1 (show j < σ.T.length by omega) 47 HCB.out.c0).mono ?_
     rintro e1 w5 ⟨rfl,hx5,hk5⟩
     have hkp:=hkp.trans hk5
     clear hx1 hk5
     go_wp2_with fail
     refine (readRune_c _ _ hx5 (show j+1 < σ.T.length by omega) 47 HCB.out.c1).mono ?_
     rintro e1 w6 ⟨rfl,hx6,hk6⟩
     have hkp:=hkp.trans hk6
     clear hx5 hk6
     go_wp2_with fail
     go_loopg [] (d - (j+2)) (fun k wr=>Hid (∃ i q1,i+k=d∧j+2≤i∧LxAt wr ((σ.go j q).started.go i q1)∧Kp (fun i=>i=σ.B) w wr))
     case atStart=>exact hide ⟨j+2,_,by omega,Nat.le_refl _,hx6,hkp⟩
     case round =>
       obtain ⟨i,q1,hik,hji,hx3,hkp3⟩:=hrel.out
       clear hrel hx6 hkp
       have hl2:((σ.go j q).started.go i q1).p < ((σ.go j q).started.go i q1).T.length:=by show i < σ.T.length;omega
       have k2:wr.cell? ⟨σ.B,2,none⟩=some (.slice (some ⟨σ.D,q1,none⟩) (σ.T.length - i) (σ.C - i)):=hx3.c2
       have k0:(0:Int) < ((σ.T.length - i:Nat):Int):=by omega
       rcases Nat.eq_zero_or_pos gk with h0 | h0
       · obtain rfl:i=d:=by omega
         have hc10:ch σ.T i=10:=HCB.out.last
         go_wp2_with fail
         refine (readRune_c _ _ hx3 hl2 10 hc10).mono ?_
         rintro e1 w7 ⟨rfl,hx7,hk7⟩
         have hkp7:=hkp3.trans hk7
         clear hk7 k2 hkp3 hx3
         go_wp2_with fail
         refine (endToken_comment _ j q (-5) _ hx7 rfl (show j≤i+1 by omega) (fun _=>HQJ.out) (by decide) (show j+2≤i+1 by omega) hc10 HCB.out.prev).mono ?_
         rintro e1 w8 ⟨rfl,hx8,hk8⟩
         have hkp8:=hkp7.trans hk8
         have hx9:∃ q ts,IsSl ts∧LxAt w8 (σ.lexed q ts (-5) j (i+1) (mkS (seg σ.T j i))):=⟨_,.slice (some ⟨σ.D,q,none⟩) (σ.T.length - j) (σ.C - j),⟨_,_,_,rfl⟩,hx8⟩
         clear hx7 hkp7 hx8 hk8
         go_wp2_with fail
         go_end0
         obtain ⟨q,ts,h1,h2⟩:=hx9
         exact ⟨q,ts,rfl,h1,h2,hkp8⟩
       · have hne:ch σ.T i≠10:=HCB.out.body i hji (show i < d by omega)
         have hnb:(((ch σ.T i:Nat):Int) != 10)=true:=by rw [bne_iff_ne];omega
         clear hne
         go_wp2_with fail
         refine (readRune_c _ _ hx3 hl2 (ch σ.T i) rfl).mono ?_
         rintro e1 w7 ⟨rfl,hx7,hk7⟩
         have hkp7:=hkp3.trans hk7
         clear hk7 k2 hkp3 hx3
         go_wp2_with fail
         go_roundg (gk - 1)
         case measure=>omega
         case rel=>exact hide ⟨i+1,_,by omega,by omega,hx7,hkp7⟩
   · have hw:=hws j hj (by omega)
     have h13:(((ch σ.T j:Nat):Int) == 13)=false:=by simp;omega
     have hc32:(((ch σ.T j:Nat):Int) == 32)=true∨((((ch σ.T j:Nat):Int) == 32)=false∧(((ch σ.T j:Nat):Int) == 9)=true):=by
       rcases hw with h | h
       · left;simp;omega
       · right;constructor <;> simp <;> omega
     have HW:=hide hws
     clear hws hw
     rcases hc32 with hc | ⟨hc,hc9⟩
     all_goals
       go_wp2_with (first
         | (go_at_call 84;refine (eof_at (σ.go j q) _ hx _ hb).mono ?_;rintro e w' ⟨rfl,rfl⟩)
         | (go_at_call 85;refine (peekRune_at (σ.go j q) _ hx hl (ch σ.T j) rfl).mono ?_;rintro e w' ⟨rfl,rfl⟩)
         | (go_at_call 86;refine (readRune_c (σ.go j q) _ hx hl (ch σ.T j) rfl).mono ?_;rintro e w1 ⟨rfl,hx1,hk1⟩))
       go_roundg (gk - 1)
       case measure=>omega
       case rel=>exact hide ⟨j+1,_,by omega,by omega,hx1,hkp.trans hk1⟩
set_option maxHeartbeats 4000000 in
theorem readToken_comS (σ:Lx) (w:World) (s e:Nat) (f:Nat→Int) (ta:Option Addr) (tl tc:Nat) (h:LxAt w σ) (hts:IsSl σ.ts) (hps:σ.p≤s) (hws:∀ i,σ.p≤i→i < s→ch σ.T i=32∨ch σ.T i=9)
   (hcb:ComB σ.T s e) (hf:OpTab w 2 f) (hB:2 < σ.B)
   (N:Nat) (hN:N≤σ.B) (cs:List Cmt) (hcm:CmAt N w σ.com cs) (hlen:cs.length≤1000000) (hok:σ.T.length≤1000000)
   (htr:∀ W,TxtAt W σ.D σ.C σ.T→OpTab W 2 f→Calls Tryz.prog 90 #[.slice (some ⟨σ.D,lineS σ.T s,none⟩) (s - lineS σ.T s) (σ.C - lineS σ.T s)] W fun e w'=>e=.returned (.slice ta (tl+1) tc)∧w'=W) :
   Calls Tryz.prog 59 #[.pointer (some ⟨σ.B,0,none⟩)] w (LexedC N w σ cs s e):=by
 obtain ⟨i0,hi0,hi1⟩:=Option.map_eq_some_iff.1 Tryz.infoCom
 simp only [Prod.mk.injEq] at hi1
 obtain ⟨z0,hz0,hz1⟩:=Option.map_eq_some_iff.1 hi1.1
 have hz2:=hi1.2.1
 have hz3:=hi1.2.2
 clear hi1
 have HCM:=hide hcm
 have HOK:=hide hok
 clear hcm hok
 have hp:=h.hp
 have HCB:=hide hcb
 have HF:=hide hf
 have HTR:=hide htr
 have hse:=hcb.he
 have hs2:=hcb.h2
 clear hcb hf htr
 obtain ⟨d,rfl⟩:∃ d,e=d+1:=⟨e - 1,by omega⟩
 go_enter Tryz.func59,Tryz.ntmps59
 go_wp2
 go_loopg [2,3,4] (s - σ.p) (fun k _ _ _ wr=>Hid (∃ j q,σ.p≤j∧j+k=s∧LxAt wr (σ.go j q)∧Kp (fun i=>i=σ.B) w wr))
 case atStart=>exact hide ⟨σ.p,σ.q,Nat.le_refl _,by omega,h,Kp.refl _ _⟩
 case round =>
   obtain ⟨j,q,hj,hjk,hx,hkp⟩:=hrel.out
   clear hrel
   have hb:(((σ.T.length - j:Nat):Int) == 0)=false:=by simp;omega
   have hl:(σ.go j q).p < (σ.go j q).T.length:=by show j < σ.T.length;omega
   rcases Nat.eq_zero_or_pos gk with h0 | h0
   · subst h0
     obtain rfl:j=s:=by omega
     go_wp2_with (first
       | (go_at_call 84;refine (eof_at (σ.go j q) _ hx _ hb).mono ?_;rintro e w' ⟨rfl,rfl⟩)
       | (go_at_call 85;refine (peekRune_at (σ.go j q) _ hx hl 47 HCB.out.c0).mono ?_;rintro e w' ⟨rfl,rfl⟩)
       | fail)
     refine (peekPrefix_yes' (σ.go j q) _ hx (show j+1 < σ.T.length by omega) HCB.out.c0 HCB.out.c1).mono ?_
     rintro e1 w1 ⟨rfl,hx,hk1⟩
     have hkp:=hkp.trans hk1
     clear hk1
     go_wp2_with fail
     refine (startToken_at (σ.go j q) _ hx hts).mono ?_
     rintro e1 w2 ⟨rfl,hx1,hk1⟩
     have hkp:=hkp.trans hk1
     have hqj:q=j:=hx.hq (by have:=h.hn;show j < σ.C;omega)
     have HQJ:=hide hqj
     clear hk1 hx hqj
     have HX1:=hide hx1
     have HKP:=hide hkp
     have q1:w2.cell? ⟨σ.B,1,none⟩=some (.slice (some ⟨σ.D,0,none⟩) σ.T.length σ.C):=hx1.c1
     have q14:w2.cell? ⟨σ.B,14,none⟩=some (.int .i64 (j:Nat)):=hx1.c14
     have r1:(0:Int)≤(j:Int):=by omega
     have r2:(j:Int)≤(σ.C:Int):=by have:=h.hn;omega
     have hD:σ.D < w2.heap.size:=hx1.hD
     have hBl:σ.B < w2.heap.size:=hx1.blk.lt
     have hcv:(convert 69 69 (.slice (some ⟨w2.heap.size,0,none⟩) 1 1)).run Tryz.prog ((w2.alloc (Obj.cells #[Value.int .u8 10] 5)).drew)=.ok (.slice (some ⟨w2.heap.size,0,none⟩) 1 1) ((w2.alloc (Obj.cells #[Value.int .u8 10] 5 (1,2))).drew):=Go.Joins.run_convert_bytes_const_at w2.drew 69 5 #[Value.int .u8 10] 1 1 w2.heap.size rfl Tryz.und_u8s' (by kernel_rfl)
     have hb1:Below w2.heap.size w2 ((w2.alloc (Obj.cells #[Value.int .u8 10] 5 (1,2))).drew):=((Below.refl _ w2).alloc (Nat.le_refl _) _).drew
     have hk2:=Kp.of_below (X:=fun _=>False) hb1
     have HLI:=hide (lastIndex_nl σ.T σ.D j σ.C w2.heap.size 1 ((w2.alloc (Obj.cells #[Value.int .u8 10] 5 (1,2))).drew) (fun i hi=>by
       have:=hx1.txt i (show i < σ.T.length by omega)
       rw [World.cell?_of_block (w:=w2) (hk2.block _ hD (fun h=>h))]
       exact this) (by have:=h.hT;omega) (cell_new0 w2 _ _ _))
     have HK2:=hide hb1
     clear hk2 hb1
     clear hx1 hkp
     go_wp2_with fail
     change Code.wp _ (Code.region _ #[_,_,_,_,_,_,_,_,_,_,_,id _,_,_] _) _ _ _
     go_region_held3 (fun w'=>w'.cell? ⟨σ.B,1,none⟩=some (.slice (some ⟨σ.D,0,none⟩) σ.T.length σ.C)∧w'.cell? ⟨σ.B,14,none⟩=some (.int .i64 (j:Nat))) (go_keep)
       ((go_fit HLI.out;rintro e w3 ⟨rfl,rfl⟩))
     have HLB:=hide (lineS_le σ.T j)
     have hk2:=Kp.of_below (X:=fun _=>False) HK2.out
     have hx1:LxAt ((w2.alloc (Obj.cells #[Value.int .u8 10] 5 (1,2))).drew) (σ.go j q).started:=by
       refine HX1.out.keptU (Ku.of_below (N:=w2.heap.size) (S:=fun _ _=>False) HK2.out (Nat.le_refl _)) id id
     have hkp:=HKP.out.trans (Kp.of_below HK2.out)
     generalize (w2.alloc (Obj.cells #[Value.int .u8 10] 5 (1,2))).drew=W3 at hx1 hkp ⊢
     clear hcv HLI HK2 hk2 HX1 HKP q1 q14 hD hBl
     have p1:W3.cell? ⟨σ.B,1,none⟩=some (.slice (some ⟨σ.D,0,none⟩) σ.T.length σ.C):=hx1.c1
     have p14:W3.cell? ⟨σ.B,14,none⟩=some (.int .i64 (j:Nat)):=hx1.c14
     have htx:=hx1.tx
     have hof:OpTab W3 2 f:=HF.out.kp hkp (by intro e;have:2=σ.B:=e;omega)
     have HC3:=hide (fun n=>HTR.out (W3.drewN n) (hx1.drewN n).tx (hof.drewN n))
     have HX1:=hide hx1
     have HKP:=hide hkp
     clear hx1 hkp htx hof
     obtain ⟨m,hm⟩:∃ m,lineS σ.T j=m:=⟨_,rfl⟩
     rw [hm] at HC3 HLB
     have hmj:m≤j:=HLB.out.1
     have hml:lastNL σ.T j=(m:Int) - 1:=by have:=HLB.out.2;omega
     rw [hml]
     clear hml hm
     have s0:IntKind.i64.wrap (m:Int)=(m:Int):=IntWalk.i64_in _ (by have:=h.hT;omega)
     have s2:(m:Int)≤(j:Int):=by omega
     have s4:(0:Int)≤(m:Int):=by omega
     have s5:(0:Int) < (tl:Int)+1:=by omega
     have s3:¬ σ.C=m:=by have:=h.hn;omega
     go_wp2_with fail
     go_quiet ((go_at_call 90;exact Calls.quiet_of_same (HC3.out _)))
     have hkp:=HKP.out.drewN nq
     have hx1:=HX1.out.drewN nq
     generalize W3.drewN nq=W4 at hx1 hkp ⊢
     clear HC3 HX1 HKP p1 p14
     go_wp2_with fail
     refine (readRune_c _ _ hx1 (show j < σ.T.length by omega) 47 HCB.out.c0).mono ?_
     rintro e1 w5 ⟨rfl,hx5,hk5⟩
     have hkp:=hkp.trans hk5
     clear hx1 hk5
     go_wp2_with fail
     refine (readRune_c _ _ hx5 (show j+1 < σ.T.length by omega) 47 HCB.out.c1).mono ?_
     rintro e1 w6 ⟨rfl,hx6,hk6⟩
     have hkp:=hkp.trans hk6
     clear hx5 hk6
     go_wp2_with fail
     go_loopg [] (d - (j+2)) (fun k wr=>Hid (∃ i q1,i+k=d∧j+2≤i∧LxAt wr ((σ.go j q).started.go i q1)∧Kp (fun i=>i=σ.B) w wr))
     case atStart=>exact hide ⟨j+2,_,by omega,Nat.le_refl _,hx6,hkp⟩
     case round =>
       obtain ⟨i,q1,hik,hji,hx3,hkp3⟩:=hrel.out
       clear hrel hx6 hkp
       have hl2:((σ.go j q).started.go i q1).p < ((σ.go j q).started.go i q1).T.length:=by show i < σ.T.length;omega
       have k2:wr.cell? ⟨σ.B,2,none⟩=some (.slice (some ⟨σ.D,q1,none⟩) (σ.T.length - i) (σ.C - i)):=hx3.c2
       have k0:(0:Int) < ((σ.T.length - i:Nat):Int):=by omega
       rcases Nat.eq_zero_or_pos gk with h0 | h0
       · obtain rfl:i=d:=by omega
         have hc10:ch σ.T i=10:=HCB.out.last
         go_wp2_with fail
         refine (readRune_c _ _ hx3 hl2 10 hc10).mono ?_
         rintro e1 w7 ⟨rfl,hx7,hk7⟩
         have hkp7:=hkp3.trans hk7
         clear hk7 k2 hkp3 hx3
         go_wp2_with fail
         refine (endToken_comment _ j q (-2) _ hx7 rfl (show j≤i+1 by omega) (fun _=>HQJ.out) (by decide) (show j+2≤i+1 by omega) hc10 HCB.out.prev).mono ?_
         rintro e1 w8 ⟨rfl,hx8,hk8⟩
         have hkp8:=hkp7.trans hk8
         have hx9:∃ q ts,IsSl ts∧LxAt w8 (σ.lexed q ts (-2) j (i+1) (mkS (seg σ.T j i))):=⟨_,.slice (some ⟨σ.D,q,none⟩) (σ.T.length - j) (σ.C - j),⟨_,_,_,rfl⟩,hx8⟩
         clear hx7 hkp7 hx8 hk8
         obtain ⟨q',ts',hts',hx10⟩:=hx9
         have b5:w8.cell? ⟨σ.B,5,none⟩=some (.int .i64 (lineAt σ.T j:Nat)):=hx10.c5
         have b6:w8.cell? ⟨σ.B,6,none⟩=some (.int .i64 (colAt σ.T j:Nat)):=hx10.c6
         have b7:w8.cell? ⟨σ.B,7,none⟩=some (.int .i64 (j:Nat)):=hx10.c7
         have b11:w8.cell? ⟨σ.B,11,none⟩=some (.string (mkS (seg σ.T j i))):=hx10.c11
         have b15:w8.cell? ⟨σ.B,15,none⟩=some σ.com:=hx10.c15
         have bl:σ.B < w8.heap.size:=hx10.blk.lt
         have bf:∀ o,w8.frozen? ⟨σ.B,o,none⟩=false:=fun o=>hx10.blk.free o
         have hcB:∀ g,σ.com.ownBlock=some g→g≠σ.B:=fun g hg e=>by subst e;exact HCM.out.blockNe h.blk (by decide) hg
         have hcm8:CmAt N w8 σ.com cs:=⟨ownsRow_kp HCM.out.1 hkp8 (fun g e=>hcB g e),HCM.out.2⟩
         have hk08:Ku N (LexS σ.com) w w8:=Ku.of_kp hkp8 (Nat.le_of_lt (Nat.lt_of_le_of_lt hN h.blk.lt)) (fun k e=>by subst e;exact hN) (fun k ds t fz hk e=>by
           subst hk
           have hb:=h.blk.out
           rw [e] at hb
           injection hb with hb
           injection hb with _ hb
           exact Or.inl hb)
         have hm1:cs.length+1≤maxLen:=by unfold maxLen;omega
         have hm2:(cs.length+1) * 48≤140737488355328:=by omega
         have hm3:N≤w8.heap.size:=by omega
         have HXB:Hid (¬ (some σ.B=σ.com.ownBlock∨w8.heap.size≤σ.B)):=hide (fun e=>e.elim (fun e=>hcB _ e.symm rfl) (fun e=>by omega))
         have HXD:Hid (¬ (some σ.D=σ.com.ownBlock∨w8.heap.size≤σ.D)):=hide (fun e=>e.elim (fun e=>HCM.out.datNe h.dat e.symm) (fun e=>by have h1:σ.D < w.heap.size:=h.hD;have:=hkp8.size;omega))
         have HX10:=hide hx10
         have HCM8:=hide hcm8
         have HK8:=hide hk08
         have MM:=hide (And.intro hm1 (And.intro hm2 hm3))
         clear hx10 hcm8 hk08 hkp8 hm1 hm2 hm3
         go_wp2_with fail
         change Code.wp _ (Code.region _ #[_,_,_,_,id _,_,_,_,_,_,_,_,_,_,_,_,_,_,_,_,_,_] _) _ _ _
         go_region_held3 (fun w'=>w'.cell? ⟨σ.B,5,none⟩=some (.int .i64 (lineAt σ.T j:Nat))∧w'.cell? ⟨σ.B,6,none⟩=some (.int .i64 (colAt σ.T j:Nat))∧w'.cell? ⟨σ.B,7,none⟩=some (.int .i64 (j:Nat))∧w'.cell? ⟨σ.B,11,none⟩=some (.string (mkS (seg σ.T j i)))) (go_keep)
           ((refine step_append_lies _ (by rfl) _ _ _ (by rfl) N 194 i0 _ 5 48 Tryz.und_coms hi0 hz0 hz2 hz3 hz1 (by omega) σ.com cs.length (cvals cs) (by rfl) (by repeat (first | exact HCM8.out.1 | apply World.ownsRow.alloc | apply World.ownsRow.drew)) ⟨w8.heap.size,0,none⟩ 1 1 [.int .i64 (lineAt σ.T j:Nat),.int .i64 (colAt σ.T j:Nat),.int .i64 (j:Nat),.string (mkS (seg σ.T j i)),.bool true] (by rfl) (by rfl) (news_one _ _ _) (by simp [Value.oneCell']) (by omega) MM.out.1 MM.out.2.1 (by have:=MM.out.2.2;simp;omega) (w8.heap.size+1) (by simp) ?_;intro gg cap w3 hown3 hgrow3 hat3 hlt3;have hkc:Ku N (LexS σ.com) w8 w3:=com_grown HCM8.out MM.out.2.2 hgrow3;have hkp3:=com_kp HCM8.out hgrow3;have hbk:=HX10.out.blk.kept hkp3 HXB.out;have HKP3:=hide hkp3;have r15:w3.cell? ⟨σ.B,15,none⟩=some σ.com:=hbk.cell 15 rfl;have r5:w3.cell? ⟨σ.B,5,none⟩=some (.int .i64 (lineAt σ.T j:Nat)):=hbk.cell 5 rfl;have r6:w3.cell? ⟨σ.B,6,none⟩=some (.int .i64 (colAt σ.T j:Nat)):=hbk.cell 6 rfl;have r7:w3.cell? ⟨σ.B,7,none⟩=some (.int .i64 (j:Nat)):=hbk.cell 7 rfl;have r11:w3.cell? ⟨σ.B,11,none⟩=some (.string (mkS (seg σ.T j i))):=hbk.cell 11 rfl;have t5:∀ v,(w3.setCell ⟨σ.B,15,none⟩ v).cell? ⟨σ.B,5,none⟩=some (.int .i64 (lineAt σ.T j:Nat)):=fun v=>(hbk.set 15 v).cell 5 rfl;have t6:∀ v,(w3.setCell ⟨σ.B,15,none⟩ v).cell? ⟨σ.B,6,none⟩=some (.int .i64 (colAt σ.T j:Nat)):=fun v=>(hbk.set 15 v).cell 6 rfl;have t7:∀ v,(w3.setCell ⟨σ.B,15,none⟩ v).cell? ⟨σ.B,7,none⟩=some (.int .i64 (j:Nat)):=fun v=>(hbk.set 15 v).cell 7 rfl;have t11:∀ v,(w3.setCell ⟨σ.B,15,none⟩ v).cell? ⟨σ.B,11,none⟩=some (.string (mkS (seg σ.T j i))):=fun v=>(hbk.set 15 v).cell 11 rfl;have rf:∀ o,w3.frozen? ⟨σ.B,o,none⟩=false:=fun o=>hbk.free o;have HBK:=hide hbk;have HKC:=hide hkc;have HOWN3:=hide hown3;have HAT:=hide hat3;clear hbk hkp3 hkc hown3 hat3 hgrow3 hlt3))
         all_goals go_wp2_with fail
         all_goals go_end0
         all_goals
           have hgB:gg≠σ.B:=by
             rcases HAT.out with e | e
             · exact hcB gg e
             · omega
           have hlx:LxAt w3 (σ.lexed q' ts' (-2) j (i+1) (mkS (seg σ.T j i))):=HX10.out.kp HKP3.out HXB.out HXD.out
           refine ⟨q',ts',.slice (some ⟨gg,0,none⟩) (cs.length+1) cap,rfl,hts',hlx.setCom _,⟨?_,?_⟩,?_,?_⟩
           · have:=ownsRow_setCell_other (a:=⟨σ.B,15,none⟩) HOWN3.out (by simp [Value.ownBlock];exact hgB) (.slice (some ⟨gg,0,none⟩) (cs.length+1) cap)
             rw [cvals_append]
             simpa [cvals,Cmt.vals] using this
           · intro c hc
             rcases List.mem_append.1 hc with hc | hc
             · exact HCM.out.2 c hc
             · obtain rfl:=List.mem_singleton.1 hc
               exact ⟨seg_len_le _ _ _ HOK.out,seg_asc h.ascii _ _⟩
           · refine (HK8.out.trans HKC.out).set hN (fun ds t fz e=>?_)
             have hb:=h.blk.out
             rw [e] at hb
             injection hb with hb
             injection hb with _ hb
             exact Or.inl hb
           · intro g hg
             simp only [Value.ownBlock,Option.some.injEq] at hg
             subst hg
             rcases HAT.out with e | e
             · exact Or.inl e
             · exact Or.inr (by have:=HK8.out.size;omega)
       · have hne:ch σ.T i≠10:=HCB.out.body i hji (show i < d by omega)
         have hnb:(((ch σ.T i:Nat):Int) != 10)=true:=by rw [bne_iff_ne];omega
         clear hne
         go_wp2_with fail
         refine (readRune_c _ _ hx3 hl2 (ch σ.T i) rfl).mono ?_
         rintro e1 w7 ⟨rfl,hx7,hk7⟩
         have hkp7:=hkp3.trans hk7
         clear hk7 k2 hkp3 hx3
         go_wp2_with fail
         go_roundg (gk - 1)
         case measure=>omega
         case rel=>exact hide ⟨i+1,_,by omega,by omega,hx7,hkp7⟩
   · have hw:=hws j hj (by omega)
     have h13:(((ch σ.T j:Nat):Int) == 13)=false:=by simp;omega
     have hc32:(((ch σ.T j:Nat):Int) == 32)=true∨((((ch σ.T j:Nat):Int) == 32)=false∧(((ch σ.T j:Nat):Int) == 9)=true):=by
       rcases hw with h | h
       · left;simp;omega
       · right;constructor <;> simp <;> omega
     have HW:=hide hws
     clear hws hw
     rcases hc32 with hc | ⟨hc,hc9⟩
     all_goals
       go_wp2_with (first
         | (go_at_call 84;refine (eof_at (σ.go j q) _ hx _ hb).mono ?_;rintro e w' ⟨rfl,rfl⟩)
         | (go_at_call 85;refine (peekRune_at (σ.go j q) _ hx hl (ch σ.T j) rfl).mono ?_;rintro e w' ⟨rfl,rfl⟩)
         | (go_at_call 86;refine (readRune_c (σ.go j q) _ hx hl (ch σ.T j) rfl).mono ?_;rintro e w1 ⟨rfl,hx1,hk1⟩))
       go_roundg (gk - 1)
       case measure=>omega
       case rel=>exact hide ⟨j+1,_,by omega,by omega,hx1,hkp.trans hk1⟩
end
end Go.Proofs.YtifkpibjeamfkaaGreatFmt
