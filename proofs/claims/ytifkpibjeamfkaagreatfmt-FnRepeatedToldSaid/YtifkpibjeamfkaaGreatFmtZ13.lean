/-
  newInput; parse at a text of lines of words.
  bytes.TrimSpace over a table of spaces of any values: what it returns is told by the places of the first and of the last byte that is none; the world is as it was.
  The frame by block and type; comments in memory.
-/
import Derived.Test.YtifkpibjeamfkaaGreatFmtZ12
import Derived.Defers
import Derived.Recover
import Derived.Test.YtifkpibjeamfkaaGreatFmtZ05
set_option linter.unusedVariables false
set_option linter.unusedSimpArgs false
set_option maxRecDepth 100000
namespace Go.Proofs.YtifkpibjeamfkaaGreatFmt
section
open Go.RowKit Go.Proofs
def Lx0 (B D C:Nat) (T:List UInt8) (nm:ByteArray):Lx :=
 { B:=B,D:=D,T:=T,C:=C,p:=0,q:=0,ts:=nilS,kind:=0,tl:=0,tc:=0,tb:=0,el:=0,ec:=0,eb:=0,text:=⟨#[]⟩,fn:=.string nm,com:=nilS,file:=.pointer none,perr:=nilS,pre:=nilS,post:=nilS }
theorem newInput_any (D C:Nat) (T:List UInt8) (nm:ByteArray) (w:World) :
   Calls Tryz.prog 57 #[.string nm,.slice (some ⟨D,0,none⟩) T.length C] w fun e w'=>e=.returned (.pointer (some ⟨w.heap.size,0,none⟩))∧w'=w.alloc (Obj.cells (Lx0 w.heap.size D C T nm).cells 155):=by
 go_enter Tryz.func57,Tryz.ntmps57
 go_wp2
 go_ret
 exact ⟨rfl,rfl⟩
set_option maxHeartbeats 2000000 in
theorem parse_door (I E B:Nat) (w:World) (hI:w.cell? ⟨I,0,none⟩=some (.pointer (some ⟨B,0,none⟩))) (hE:w.cell? ⟨E,0,none⟩=some .nilIface) (hB:w.cell? ⟨B,17,none⟩=some (.slice none 0 0)) :
   CallsD Tryz.prog 58 #[.pointer (some ⟨I,0,none⟩),.pointer (some ⟨E,0,none⟩)] .returning w fun e u' w'=>e=.returned (.tuple #[])∧u'=.returning∧w'=w:=by
 refine callsD_of_wpS Tryz.func58 rfl fun c₀ cs hu=>?_
 simp only [Tryz.ntmps58,List.size_toArray,List.length_cons,List.length_nil,Nat.reduceAdd,Nat.reduceSub,Array.replicate_succ,Array.replicate_zero,List.push_toArray,List.append_toArray,List.nil_append,List.cons_append]
 apply wpS_seq
 apply wpS_seq
 apply wpS_region
 simp [wpOpsS,go_sem,recoverD,hu,Exit.thenS]
 refine wpS_of_wp ?_
 go_wp2
 show Code.wpS _ _ _ _ _ _
 refine wpS_of_wp ?_
 go_wp2
 simp [bodyPostS,results,Tryz.results58]
 cases c₀
 simp_all
theorem ilines_len (its:List It):(ilines its).length≤its.length:=by
 induction its with
 | nil=>exact Nat.le_refl _
 | cons i is ih=>cases i <;> simp [ilines,It.lines] <;> omega
structure TxtAt (w:World) (D C:Nat) (T:List UInt8):Prop where
 cell:∀ j,j < T.length→w.cell? ⟨D,j,none⟩=some (.int .u8 (ch T j:Nat))
 ascii:∀ j,ch T j < 128
 hn:T.length≤C
 hC:C≤9223372036854775807
 hT:T.length≤1152921504606846976
 dat:∃ cs fz,w.heap[D]?=some (.cells cs 5 fz)
theorem TxtAt.lx {w W:World} {D C:Nat} {T:List UInt8} (h:TxtAt w D C T) (hb:Below w.heap.size w W) (B:Nat) (nm:ByteArray) (hB:Blk W B 155 (Lx0 B D C T nm).cells):LxAt W (Lx0 B D C T nm):=by
 obtain ⟨cs,fz,e⟩:=h.dat
 have hD:D < w.heap.size:=(Array.getElem?_eq_some_iff.1 e).1
 refine ⟨hB,fun j hj=>(hb.cell (p:=⟨D,j,none⟩) hD).trans (h.cell j hj),h.ascii,Nat.zero_le _,h.hn,h.hC,h.hT,fun _=>rfl,⟨cs,fz,(hb.block D hD).trans e⟩⟩
set_option maxHeartbeats 2000000 in
theorem parse_lines (w:World) (D C:Nat) (T:List UInt8) (nm:ByteArray) (its:List It) (en c:Tk) (cs:List Tk) (h:TxtAt w D C T) (hen:en.k=-1) (hits:∀ i ∈ its,i.ok) (hts:itoks its++[en]=c :: cs) (h0:TokAt T 0 c) (hch:Chain T c cs)
   (hl0:0 < (ilines its).length) (hlen:its.length≤999999) (hpr:PrTab w) (hP:0 < w.heap.size) :
   Calls Tryz.prog 49 #[.string nm,.slice (some ⟨D,0,none⟩) T.length C] w fun e w'=>∃ F Ls,e=.returned (.tuple #[.pointer (some ⟨F,0,none⟩),.nilIface])∧Below w.heap.size w w' ∧
     FileAt w.heap.size w' F nm (Ls.map lineV)∧LinesAt w.heap.size w' T Ls (ilines its):=by
 have hmf:∀ (fn:Fn) (first cap:Array Value) (w:World),(Instr.makeFunc fn first cap).run Tryz.prog w=.ok (.func fn first cap) w:=fun _ _ _ _=>rfl
 have H:=hide h
 have HP:=hide hpr
 have HC:=hide hch
 have H0:=hide h0
 have HT:=hide hts
 have HI:=hide hits
 have HE:=hide hen
 have HL0:=hide hl0
 clear h hpr hch h0 hts hits hen hl0
 go_enter_defers Tryz.func49,Tryz.ntmps49
 go_wp2_with fail
 refine (newInput_any D C T nm _).mono ?_
 rintro e w1 ⟨rfl,rfl⟩
 go_wp2_with fail
 have bE:=((Blk.new w 66 #[Value.nilIface]).alloc (Obj.cells (Lx0 (w.heap.size+1) D C T nm).cells 155)).alloc (Obj.cells #[Value.pointer (some ⟨w.heap.size+1,0,none⟩)] 149)
 have bB:=(Blk.new (w.alloc (Obj.cells #[Value.nilIface] 66)) 155 (Lx0 (w.heap.size+1) D C T nm).cells).alloc (Obj.cells #[Value.pointer (some ⟨w.heap.size+1,0,none⟩)] 149)
 have bI:=Blk.new ((w.alloc (Obj.cells #[Value.nilIface] 66)).alloc (Obj.cells (Lx0 (w.heap.size+1) D C T nm).cells 155)) 149 #[Value.pointer (some ⟨w.heap.size+1,0,none⟩)]
 have hbW:Below w.heap.size w (((w.alloc (Obj.cells #[Value.nilIface] 66)).alloc (Obj.cells (Lx0 (w.heap.size+1) D C T nm).cells 155)).alloc (Obj.cells #[Value.pointer (some ⟨w.heap.size+1,0,none⟩)] 149)) :=
   (((Below.refl _ w).alloc (Nat.le_refl _) _).alloc (by simp) _).alloc (by simp;omega) _
 rw [show (w.alloc (Obj.cells #[Value.nilIface] 66)).heap.size=w.heap.size+1 from by simp] at bB
 rw [show ((w.alloc (Obj.cells #[Value.nilIface] 66)).alloc (Obj.cells (Lx0 (w.heap.size+1) D C T nm).cells 155)).heap.size=w.heap.size+1+1 from by simp] at bI
 generalize (((w.alloc (Obj.cells #[Value.nilIface] 66)).alloc (Obj.cells (Lx0 (w.heap.size+1) D C T nm).cells 155)).alloc (Obj.cells #[Value.pointer (some ⟨w.heap.size+1,0,none⟩)] 149))=W at bE bB bI hbW ⊢
 have hlx:=H.out.lx hbW _ nm bB
 have hprW:PrTab W:=HP.out.keptT (N:=w.heap.size) (S:=fun _=>True) ⟨hbW,fun k cs t fz e hn=>absurd True.intro hn⟩ hP
 refine (readToken_tok w.heap.size (Lx0 (w.heap.size+1) D C T nm) W c hlx ⟨_,_,_,rfl⟩ H0.out hprW hP (Nat.le_succ _)).mono ?_
 rintro e w2 ⟨rfl,hat2,hk2⟩
 have bE2:=bE.keptT hk2 (by decide)
 have bI2:=bI.keptT hk2 (by decide)
 have eI2:w2.cell? ⟨w.heap.size+1+1,0,none⟩=some (.pointer (some ⟨w.heap.size+1,0,none⟩)):=bI2.cell 0 rfl
 have HA2:=hide hat2
 have hpr2:=hprW.keptT hk2 hP
 have HP2:=hide hpr2
 have HB2:=hide (hbW.trans hk2.below)
 have BE2:=hide bE2
 have BI2:=hide bI2
 clear bE bB bI hbW hlx hprW hat2 hk2 bE2 bI2 hpr2
 go_wp2_with fail
 refine (parseFile_lines w.heap.size (Lx0 (w.heap.size+1) D C T nm) w2 its en c cs HE.out HI.out HT.out HC.out HA2.out (by omega) HP2.out hP (Nat.le_succ _)).mono ?_
 rintro e w3 ⟨rfl,F,Ls,hF,hat3,hk3,hfa,hls⟩
 obtain ⟨q,tsv,hsl,hx⟩:=hat3
 have hxb:=hx.blk
 have e17:w3.cell? ⟨w.heap.size+1,17,none⟩=some (.slice none 0 0):=hx.c17
 have e16:w3.cell? ⟨w.heap.size+1,16,none⟩=some (.pointer (some ⟨F,0,none⟩)):=hx.c16
 have e0:w3.cell? ⟨w.heap.size+1,0,none⟩=some (.string nm):=hxb.cell 0 rfl
 have bI3:=BI2.out.keptT hk3 (by simp [Stmt3])
 have bE3:=BE2.out.keptT hk3 (by simp [Stmt3])
 have eI3:w3.cell? ⟨w.heap.size+1+1,0,none⟩=some (.pointer (some ⟨w.heap.size+1,0,none⟩)):=bI3.cell 0 rfl
 obtain ⟨fv,hfb,hfo⟩:=hfa
 have hsz2:w.heap.size+1+1 < w2.heap.size:=BI2.out.lt
 have hF1:F≠w.heap.size+1:=by omega
 have hF2:F≠w.heap.size+1+1:=by omega
 have hF0:F≠w.heap.size:=by omega
 have ff:∀ j,w3.frozen? ⟨F,j,none⟩=false:=fun j=>hfb.free j
 have fc0:w3.cell? ⟨F,0,none⟩=some (.string ⟨#[]⟩):=hfb.cell 0 rfl
 have hFlt:=hfb.lt
 have hw4:Hid (Blk (w3.setCell ⟨F,0,none⟩ (.string nm)).drew (w.heap.size+1) 155 (({ Lx0 (w.heap.size+1) D C T nm with file:=.pointer (some ⟨F,0,none⟩) }:Lx).lexed q tsv en.k en.s en.e (txtOf T en)).cells ∧
     ExprAt w.heap.size (w3.setCell ⟨F,0,none⟩ (.string nm)).drew T F nm Ls∧LinesAt w.heap.size (w3.setCell ⟨F,0,none⟩ (.string nm)).drew T Ls (ilines its)∧Below w.heap.size w (w3.setCell ⟨F,0,none⟩ (.string nm)).drew ∧
     Blk (w3.setCell ⟨F,0,none⟩ (.string nm)).drew (w.heap.size+1+1) 149 #[Value.pointer (some ⟨w.heap.size+1,0,none⟩)]∧Blk (w3.setCell ⟨F,0,none⟩ (.string nm)).drew w.heap.size 66 #[Value.nilIface]):=by
   have kk:Kt w.heap.size (fun u=>u=129) w3 (w3.setCell ⟨F,0,none⟩ (.string nm)).drew:=by
     refine Kt.drew ?_
     refine Kt.set_blk ?_ (by omega) hfb rfl
     exact Kt.refl _ _ _
   have hls4:=hls.keptT kk (by decide) (by decide)
   refine hide ⟨hxb.keptT kk (by decide),⟨⟨fv,(hfb.set 0 _).drew,ownsRow_keptT hfo kk (by decide)⟩,fun L hL=>LinesAt.at hls4 L hL⟩,hls4,(HB2.out.trans hk3.below).trans kk.below,bI3.keptT kk (by decide),bE3.keptT kk (by decide)⟩
 have HX:=hide hx
 clear hx hxb hls hfo hfb bI3 bE3 hk3
 go_wp2_with fail
 go_region_held3 (fun w'=>w'.cell? ⟨w.heap.size+1+1,0,none⟩=some (.pointer (some ⟨w.heap.size+1,0,none⟩))∧w'.cell? ⟨w.heap.size+1,16,none⟩=some (.pointer (some ⟨F,0,none⟩))∧w'.cell? ⟨w.heap.size+1,0,none⟩=some (.string nm)) (go_keep) (fail)
 all_goals (generalize (w3.setCell ⟨F,0,none⟩ (.string nm)).drew=W4 at hw4 ⊢)
 obtain ⟨b4,hE4,hls4,hb4,bI4,bE4⟩:=hw4.out
 clear hw4 HX
 have eI4:W4.cell? ⟨w.heap.size+1+1,0,none⟩=some (.pointer (some ⟨w.heap.size+1,0,none⟩)):=bI4.cell 0 rfl
 have hLl:Ls.length=(ilines its).length:=hls4.len
 have hL0:0 < Ls.length:=by rw [hLl];exact HL0.out
 have hL1:Ls.length≤999999:=by have:=ilines_len its;omega
 have B4:=hide b4
 have HE4:=hide hE4
 have HLS4:=hide hls4
 have HB4:=hide hb4
 have BI4:=hide bI4
 have BE4:=hide bE4
 clear b4 hE4 hls4 hb4 bI4 bE4 e17 e16 e0 eI3 ff fc0 eI2 HB2 HA2
 go_wp2_with fail
 refine (assign_lines w.heap.size W4 T (w.heap.size+1) F nm (({ Lx0 (w.heap.size+1) D C T nm with file:=.pointer (some ⟨F,0,none⟩) }:Lx).lexed q tsv en.k en.s en.e (txtOf T en)).cells Ls
   ⟨rfl,B4.out.lt,B4.out.eq rfl,⟨rfl,Or.inl ⟨rfl,rfl⟩⟩,⟨rfl,Or.inl ⟨rfl,rfl⟩⟩,fun g h=>by simp [nilS,Value.ownBlock] at h⟩ rfl rfl HE4.out hL0 hL1).mono ?_
 rintro e w5 ⟨rfl,hk5,hE5,p5,q5,bB5⟩
 have hFb4:∃ v,Blk W4 F 129 v:=by obtain ⟨v,hb,_⟩:=HE4.out.1;exact ⟨_,hb⟩
 obtain ⟨fv4,hFb4⟩:=hFb4
 have kt5:Kt w.heap.size (fun u=>u=155∨u=129) W4 w5:=by
   refine Kt.of_kp hk5 HB4.out.size (fun k hk=>?_) (fun k hk cs t fz e=>?_)
   · rcases hk with rfl | rfl | hk
     · omega
     · omega
     · have:=HB4.out.size;omega
   · rcases hk with rfl | rfl | hk
     · have h1:=B4.out.out
       rw [e] at h1;injection h1 with h1;injection h1 with _ h1
       exact Or.inl h1
     · have h1:=hFb4.out
       rw [e] at h1;injection h1 with h1;injection h1 with _ h1
       exact Or.inr h1
     · have:=(Array.getElem?_eq_some_iff.1 e).1
       omega
 have bI5:=BI4.out.keptT kt5 (by decide)
 have bE5:=BE4.out.keptT kt5 (by decide)
 have hls5:=HLS4.out.keptT kt5 (by decide) (by decide)
 have hb5:=HB4.out.trans kt5.below
 have eI5:w5.cell? ⟨w.heap.size+1+1,0,none⟩=some (.pointer (some ⟨w.heap.size+1,0,none⟩)):=bI5.cell 0 rfl
 have e165:w5.cell? ⟨w.heap.size+1,16,none⟩=some (.pointer (some ⟨F,0,none⟩)):=bB5.cell 16 rfl
 have e175:w5.cell? ⟨w.heap.size+1,17,none⟩=some (.slice none 0 0):=bB5.cell 17 rfl
 have eE5:w5.cell? ⟨w.heap.size,0,none⟩=some .nilIface:=bE5.cell 0 rfl
 have fE5:∀ j,w5.frozen? ⟨w.heap.size,j,none⟩=false:=fun j=>bE5.free j
 have sE5:w5.setCell ⟨w.heap.size,0,none⟩ .nilIface=w5:=bE5.set_id rfl
 have HLS5:=hide hls5
 have HB5:=hide hb5
 have HE5:=hide hE5.1
 clear hk5 hE5 bB5 hFb4 kt5 bI5 bE5 hls5 hb5 eI4 hLl
 go_wp2_with fail
 refine leaves_cons (f:=58) (args:=#[.pointer (some ⟨w.heap.size+1+1,0,none⟩),.pointer (some ⟨w.heap.size,0,none⟩)]) (by simp) (by simp [go_sem]) ?_
 refine (parse_door (w.heap.size+1+1) w.heap.size (w.heap.size+1) w5 eI5 eE5 e175).mono ?_
 rintro e u' w6 ⟨rfl,rfl,rfl⟩
 simp [Leaves,settle,results,Tryz.results49,go_sem,eE5]
 exact ⟨HB5.out,Ls,HE5.out,HLS5.out⟩
end
section
open Go.RowKit Go.Proofs
def OpTab (w:World) (g:Nat) (f:Nat→Int):Prop:=∀ c,c < 256→w.cell? ⟨g,c,none⟩=some (.int .u8 (f c))
set_option maxHeartbeats 2000000 in
theorem trimSpace_openN (D C o n c:Nat) (T:List UInt8) (w:World) (f:Nat→Int) (hT:TxtAt w D C T) (ho:o+n≤T.length) (hc:n≤c) (hcb:c≤9223372036854775807) (hf:OpTab w 2 f) (hn:∀ j,j < n→f (ch T (o+j))≠0) (a:Option Addr) (ha:0 < n→a=some ⟨D,o,none⟩) :
   Calls Tryz.prog 90 #[.slice a n c] w fun e w'=>e=.returned (.slice none 0 0)∧w'=w:=by
 have HT:=hide hT
 have HF:=hide hf
 have HN:=hide hn
 have HA:=hide ha
 clear hT hf hn ha
 go_enter Tryz.func90,Tryz.ntmps90
 go_wp2_with fail
 go_loopg [0,9] n (fun k v0 v9 wr=>wr=w∧v0=.slice a n c∧∃ j:Nat,j+k=n∧v9=.int .i64 (j:Int))
 case atStart=>exact ⟨rfl,rfl,0,by omega,rfl⟩
 case round =>
   obtain ⟨rfl,rfl,j,hj,rfl⟩:=hrel
   rcases Nat.lt_or_ge j n with hlt | hge
   · obtain rfl:=HA.out (by omega)
     have c1:=HT.out.cell (o+j) (by omega)
     have c2:=HT.out.ascii (o+j)
     have c3:=HF.out (ch T (o+j)) (by omega)
     have c4:=HN.out j hlt
     obtain ⟨x,hx⟩:∃ x,ch T (o+j)=x:=⟨_,rfl⟩
     rw [hx] at c1 c2 c3 c4
     obtain ⟨y,hy⟩:∃ y,f x=y:=⟨_,rfl⟩
     rw [hy] at c3 c4
     have g1:(j:Int) < (n:Int):=by omega
     have g2:¬ (128:Int)≤(x:Int):=by omega
     have g3:(x:Int) < 256:=by omega
     have g4:x < 256:=by omega
     have z1:(y == 0)=false:=by simp [c4]
     clear hy c4
     go_wp2_with fail
     go_roundg (n - (j+1))
     case measure=>omega
     case rel=>exact ⟨rfl,rfl,j+1,by omega,by simp⟩
   · have g1:¬ (j:Int) < (n:Int):=by omega
     go_wp2_with fail
     go_ret
     exact ⟨rfl,rfl⟩
set_option maxHeartbeats 2000000 in
theorem trimSpace_openS (D C o n c lo hi:Nat) (T:List UInt8) (w:World) (f:Nat→Int) (hT:TxtAt w D C T) (ho:o+n≤T.length) (hc:n≤c) (hcb:c≤9223372036854775807) (hf:OpTab w 2 f)
   (h1:lo≤hi) (h2:hi < n) (hlo:∀ j,j < lo→f (ch T (o+j))≠0) (hl0:f (ch T (o+lo))=0) (hhi:∀ j,hi < j→j < n→f (ch T (o+j))≠0) (hh0:f (ch T (o+hi))=0) :
   Calls Tryz.prog 90 #[.slice (some ⟨D,o,none⟩) n c] w fun e w'=>e=.returned (.slice (some ⟨D,o+lo,none⟩) (hi - lo+1) (c - lo))∧w'=w:=by
 have HT:=hide hT
 have HF:=hide hf
 have HL:=hide hlo
 have HL0:=hide hl0
 have HH:=hide hhi
 have HH0:=hide hh0
 clear hT hf hlo hl0 hhi hh0
 go_enter Tryz.func90,Tryz.ntmps90
 go_wp2_with fail
 go_loopg [0,9] n (fun k v0 v9 wr=>wr=w∧v0=.slice (some ⟨D,o,none⟩) n c∧∃ j:Nat,j+k=n∧j≤lo∧v9=.int .i64 (j:Int))
 case atStart=>exact ⟨rfl,rfl,0,by omega,by omega,rfl⟩
 case round =>
   obtain ⟨rfl,rfl,j,hj,hjl,rfl⟩:=hrel
   have c1:=HT.out.cell (o+j) (by omega)
   have c2:=HT.out.ascii (o+j)
   have c3:=HF.out (ch T (o+j)) (by omega)
   obtain ⟨x,hx⟩:∃ x,ch T (o+j)=x:=⟨_,rfl⟩
   rw [hx] at c1 c2 c3
   obtain ⟨y,hy⟩:∃ y,f x=y:=⟨_,rfl⟩
   rw [hy] at c3
   have g1:(j:Int) < (n:Int):=by omega
   have g2:¬ (128:Int)≤(x:Int):=by omega
   have g3:(x:Int) < 256:=by omega
   have g4:x < 256:=by omega
   rcases Nat.lt_or_ge j lo with hlt | hge
   · have z1:(y == 0)=false:=by have:=HL.out j hlt;rw [hx,hy] at this;simp [this]
     clear hy hx
     go_wp2_with fail
     go_roundg (n - (j+1))
     case measure=>omega
     case rel=>exact ⟨rfl,rfl,j+1,by omega,by omega,by simp⟩
   · obtain rfl:j=lo:=by omega
     have z1:(y == 0)=true:=by have:=HL0.out;rw [hx,hy] at this;simp [this]
     have g5:¬ c=j:=by omega
     have g6:j≤c:=by omega
     have g7:j≤n:=by omega
     have gs:IntKind.i64.wrap ((n:Int) - (j:Int) - 1)=(n:Int) - (j:Int) - 1:=Go.IntWalk.i64_in _ (by omega)
     clear hy hx
     go_wp2_with fail
     go_loopg [5] (n - j) (fun k v5 wr2=>wr2=wr∧k≤n - j∧∃ q:Nat,q+1=k∧hi≤j+q∧v5=.int .i64 (q:Int))
     case atStart=>exact ⟨rfl,Nat.le_refl _,n - j - 1,by omega,by omega,congrArg (Value.int .i64) (by omega)⟩
     case round =>
       obtain ⟨rfl,hk,q,hq,hqh,rfl⟩:=hrel
       have d1:=HT.out.cell (o+j+q) (by omega)
       have d2:=HT.out.ascii (o+j+q)
       have d3:=HF.out (ch T (o+j+q)) (by omega)
       obtain ⟨x2,hx2⟩:∃ x2,ch T (o+j+q)=x2:=⟨_,rfl⟩
       rw [hx2] at d1 d2 d3
       obtain ⟨y2,hy2⟩:∃ y2,f x2=y2:=⟨_,rfl⟩
       rw [hy2] at d3
       have e1:(0:Int)≤(q:Int):=by omega
       have e2:¬ (128:Int)≤(x2:Int):=by omega
       have e3:(x2:Int) < 256:=by omega
       have e4:x2 < 256:=by omega
       have e5:q < n - j:=by omega
       have e6:(q:Int) < ((n - j:Nat):Int):=by omega
       rcases Nat.lt_or_ge hi (j+q) with hgt | hle
       · have z2:(y2 == 0)=false:=by have:=HH.out (j+q) hgt (by omega);rw [← Nat.add_assoc,hx2,hy2] at this;simp [this]
         clear hy2 hx2
         go_wp2_with fail
         go_roundg (gk - 1)
         case measure=>omega
         case rel=>exact ⟨rfl,by omega,q - 1,by omega,by omega,congrArg (Value.int .i64) (by omega)⟩
       · obtain rfl:hi=j+q:=by omega
         have z2:(y2 == 0)=true:=by have:=HH0.out;rw [← Nat.add_assoc,hx2,hy2] at this;simp [this]
         have e7:(q:Int)+1≤((c - j:Nat):Int):=by omega
         clear hy2 hx2
         go_wp2_with fail
         go_ret
         exact ⟨rfl,rfl⟩
def noSp (f:Nat→Int) (T:List UInt8) (o n:Nat):Prop:=∃ j,j < n∧f (ch T (o+j))=0
theorem noSp_ends {f:Nat→Int} {T:List UInt8} {o n:Nat} (h:noSp f T o n):∃ lo hi,lo≤hi∧hi < n∧(∀ j,j < lo→f (ch T (o+j))≠0)∧f (ch T (o+lo))=0∧(∀ j,hi < j→j < n→f (ch T (o+j))≠0)∧f (ch T (o+hi))=0:=by
 induction n with
 | zero=>obtain ⟨j,hj,_⟩:=h;omega
 | succ n ih =>
   by_cases hn:noSp f T o n
   · obtain ⟨lo,hi,h1,h2,h3,h4,h5,h6⟩:=ih hn
     by_cases h0:f (ch T (o+n))=0
     · exact ⟨lo,n,by omega,by omega,h3,h4,fun j a b=>by omega,h0⟩
     · refine ⟨lo,hi,h1,by omega,h3,h4,fun j a b=>?_,h6⟩
       rcases Nat.lt_or_ge j n with c | c
       · exact h5 j a c
       · obtain rfl:j=n:=by omega
         exact h0
   · obtain ⟨j,hj,hz⟩:=h
     have hjn:j=n:=by
       rcases Nat.lt_or_ge j n with c | c
       · exact absurd ⟨j,c,hz⟩ hn
       · omega
     subst hjn
     exact ⟨j,j,Nat.le_refl _,by omega,fun i hi e=>hn ⟨i,hi,e⟩,hz,fun i a b=>by omega,hz⟩
end
section
open Go.RowKit Go.Proofs
structure Ku (N:Nat) (S:Nat→TypeId→Prop) (w w':World):Prop where
 below:Below N w w'
 keep:∀ (k:Nat) (cs:Array Value) (t:TypeId) (fz:Nat × Nat),w.heap[k]?=some (Obj.cells cs t fz)→¬ S k t→w'.heap[k]?=some (Obj.cells cs t fz)
theorem Ku.refl (N:Nat) (S:Nat→TypeId→Prop) (w:World):Ku N S w w:=⟨Below.refl _ _,fun _ _ _ _ h _=>h⟩
theorem Ku.trans' {N:Nat} {S S':Nat→TypeId→Prop} {a b c:World} (h:Ku N S a b) (k:Ku N S' b c) (hs:∀ i t,i < a.heap.size→S' i t→S i t):Ku N S a c :=
 ⟨h.below.trans k.below,fun i cs t fz e hn=>k.keep i cs t fz (h.keep i cs t fz e hn) (fun x=>hn (hs i t (Array.getElem?_eq_some_iff.1 e).1 x))⟩
theorem Ku.trans {N:Nat} {S:Nat→TypeId→Prop} {a b c:World} (h:Ku N S a b) (k:Ku N S b c):Ku N S a c:=h.trans' k (fun _ _ _ x=>x)
theorem Ku.mono {N:Nat} {S S':Nat→TypeId→Prop} {a b:World} (h:Ku N S a b) (hs:∀ i t,S i t→S' i t):Ku N S' a b :=
 ⟨h.below,fun i cs t fz e hn=>h.keep i cs t fz e (fun x=>hn (hs i t x))⟩
theorem Ku.low {N M:Nat} {S:Nat→TypeId→Prop} {a b:World} (h:Ku N S a b) (hm:M≤N):Ku M S a b:=⟨h.below.mono hm,h.keep⟩
theorem Ku.size {N:Nat} {S:Nat→TypeId→Prop} {a b:World} (h:Ku N S a b):a.heap.size≤b.heap.size:=h.below.size
theorem Ku.of_kt {N:Nat} {S:TypeId→Prop} {a b:World} (h:Kt N S a b):Ku N (fun _ t=>S t) a b:=⟨h.below,h.keep⟩
theorem Ku.of_below {N:Nat} {S:Nat→TypeId→Prop} {a b:World} (h:Below a.heap.size a b) (hN:N≤a.heap.size):Ku N S a b :=
 ⟨h.mono hN,fun k cs t fz e _=>(h.block k (Array.getElem?_eq_some_iff.1 e).1).trans e⟩
theorem Ku.drew {N:Nat} {S:Nat→TypeId→Prop} {a w:World} (h:Ku N S a w):Ku N S a w.drew:=⟨h.below.drew,h.keep⟩
theorem Ku.drewN {N:Nat} {S:Nat→TypeId→Prop} {a w:World} (h:Ku N S a w) (n:Nat):Ku N S a (w.drewN n):=⟨⟨h.below.os,h.below.tape,h.below.output,h.below.size,h.below.block⟩,h.keep⟩
theorem Ku.alloc {N:Nat} {S:Nat→TypeId→Prop} {a w:World} (h:Ku N S a w) (hN:N≤a.heap.size) (o:Obj):Ku N S a (w.alloc o):=by
 refine ⟨h.below.alloc (Nat.le_trans hN h.size) o,fun k cs t fz e hn=>?_⟩
 have h1:=h.keep k cs t fz e hn
 rw [Below.heap_alloc _ _ _ (Array.getElem?_eq_some_iff.1 h1).1]
 exact h1
theorem Ku.set {N:Nat} {S:Nat→TypeId→Prop} {a w:World} {b o:Nat} {u:Value} (h:Ku N S a w) (hb:N≤b) (hs:∀ (cs:Array Value) (t:TypeId) (fz:Nat × Nat),a.heap[b]?=some (Obj.cells cs t fz)→S b t):Ku N S a (w.setCell ⟨b,o,none⟩ u):=by
 refine ⟨h.below.setCell hb u,fun k cs t fz e hn=>?_⟩
 have h1:=h.keep k cs t fz e hn
 have hne:k≠b:=by
   rintro rfl
   exact hn (hs cs t fz e)
 rw [Below.heap_setCell _ _ _ _ hne]
 exact h1
theorem Ku.set_new {N:Nat} {S:Nat→TypeId→Prop} {a w:World} {b o:Nat} {u:Value} (h:Ku N S a w) (hb:N≤b) (hs:a.heap.size≤b):Ku N S a (w.setCell ⟨b,o,none⟩ u) :=
 h.set hb (fun cs t fz e=>by rw [Array.getElem?_eq_none hs] at e;cases e)
theorem Ku.set_blk {N:Nat} {S:Nat→TypeId→Prop} {a w:World} {b o:Nat} {u:Value} {t:TypeId} {ds:Array Value} (h:Ku N S a w) (hb:N≤b) (hB:Blk a b t ds) (hs:S b t):Ku N S a (w.setCell ⟨b,o,none⟩ u) :=
 h.set hb (fun cs t' fz e=>by rw [hB.out] at e;injection e with e;injection e with _ e;exact e ▸ hs)
theorem Ku.of_append {W w1:World} {N:Nat} {e:TypeId} {size n:Nat} {v:Value} {xs:List Value} {S:Nat→TypeId→Prop} (hown:W.ownsRow N e size v n xs) (hg:W.grownBy w1 v.ownBlock) (hN:N≤W.heap.size) (hS:∀ g,v.ownBlock=some g→S g e):Ku N S W w1:=by
 have hb:∀ g,v.ownBlock=some g→N≤g:=fun g hg'=>(hown.lt g hg').1
 refine ⟨(Below.refl _ W).grown hg hN (fun k hk=>hb k hk),fun k cs t fz hk hn=>?_⟩
 have hlt:k < W.heap.size:=(Array.getElem?_eq_some_iff.1 hk).1
 refine (hg.block k hlt (fun he=>?_)).trans hk
 rcases hown.2 with ⟨rfl,_⟩ | ⟨g,cap,cur,rfl,hb,hh,_⟩
 · simp [Value.ownBlock] at he
 · obtain rfl:g=k:=by simpa [Value.ownBlock] using he.symm
   rw [hh] at hk
   injection hk with hk
   injection hk with _ hk
   exact hn (hk ▸ hS g rfl)
theorem Blk.keptU {N:Nat} {S:Nat→TypeId→Prop} {w w':World} {b:Nat} {t:TypeId} {cs:Array Value} (h:Blk w b t cs) (k:Ku N S w w') (hn:¬ S b t):Blk w' b t cs:=⟨k.keep _ _ _ _ h.out hn⟩
theorem ownsRow_keptU {N base:Nat} {S:Nat→TypeId→Prop} {w w':World} {e:TypeId} {size n:Nat} {v:Value} {xs:List Value} (h:w.ownsRow base e size v n xs) (k:Ku N S w w') (hn:∀ g,v.ownBlock=some g→¬ S g e):w'.ownsRow base e size v n xs:=by
 obtain ⟨h1,h2⟩:=h
 refine ⟨h1,?_⟩
 rcases h2 with h2 | ⟨g,cap,cur,rfl,hg,hh,r⟩
 · exact Or.inl h2
 · exact Or.inr ⟨g,cap,cur,rfl,hg,k.keep _ _ _ _ hh (hn g rfl),r⟩
theorem LxAt.keptU {N:Nat} {S:Nat→TypeId→Prop} {w w':World} {σ:Lx} (h:LxAt w σ) (k:Ku N S w w') (h1:¬ S σ.B 155) (h2:¬ S σ.D 5):LxAt w' σ:=by
 obtain ⟨cs,fz,e⟩:=h.dat
 refine ⟨h.blk.keptU k h1,fun j hj=>?_,h.ascii,h.hp,h.hn,h.hC,h.hT,h.hq,⟨cs,fz,k.keep _ _ _ _ e h2⟩⟩
 rw [World.cell?_of_block (w:=w) ((k.keep _ _ _ _ e h2).trans e.symm)]
 exact h.txt j hj
theorem Blk.newAt (w:World) (t:TypeId) (cs:Array Value) (n:Nat) (h:w.heap.size=n):Blk (w.alloc (.cells cs t)) n t cs:=h ▸ Blk.new w t cs
theorem PrTab.below {w w':World} {N:Nat} (h:PrTab w) (k:Below N w w') (hx:0 < N):PrTab w':=by
 intro c hc
 obtain ⟨v,hv,hr⟩:=h c hc
 exact ⟨v,(World.cell?_of_block (w:=w) (a:=⟨0,c,none⟩) (k.block _ hx)).trans hv,hr⟩
theorem OpTab.below {w w':World} {N g:Nat} {f:Nat→Int} (h:OpTab w g f) (k:Below N w w') (hx:g < N):OpTab w' g f :=
 fun c hc=>(World.cell?_of_block (w:=w) (a:=⟨g,c,none⟩) (k.block _ hx)).trans (h c hc)
structure Cmt where
 l:Int
 c:Int
 b:Int
 txt:List UInt8
 suf:Bool
def Cmt.vals (c:Cmt):List Value:=[.int .i64 c.l,.int .i64 c.c,.int .i64 c.b,.string (mkS c.txt),.bool c.suf]
def Cmt.ok (c:Cmt):Prop:=c.txt.length≤1000000∧∀ x ∈ c.txt,x.toNat < 128
def cvals (cs:List Cmt):List Value:=cs.flatMap Cmt.vals
theorem cvals_len (cs:List Cmt):(cvals cs).length=cs.length * 5:=by
 induction cs with
 | nil=>rfl
 | cons c cs ih=>simp only [cvals,List.flatMap_cons,List.length_append] at ih ⊢;rw [ih];simp [Cmt.vals];omega
theorem cvals_append (a b:List Cmt):cvals (a++b)=cvals a++cvals b:=by simp [cvals]
def CmAt (N:Nat) (w:World) (v:Value) (cs:List Cmt):Prop:=w.ownsRow N 194 5 v cs.length (cvals cs)∧∀ c ∈ cs,c.ok
def Apart (u v:Value):Prop:=∀ g,u.ownBlock=some g→v.ownBlock≠some g
theorem Apart.symm {u v:Value} (h:Apart u v):Apart v u:=fun g e k=>h g k e
theorem Apart.nil (v:Value):Apart nilS v:=fun g e=>by simp [nilS,Value.ownBlock] at e
theorem CmAt.nil (N:Nat) (w:World):CmAt N w nilS []:=⟨⟨rfl,Or.inl ⟨rfl,rfl⟩⟩,by simp⟩
theorem CmAt.keptU {N M:Nat} {S:Nat→TypeId→Prop} {w w':World} {v:Value} {cs:List Cmt} (h:CmAt M w v cs) (k:Ku N S w w') (hn:∀ g,v.ownBlock=some g→¬ S g 194):CmAt M w' v cs :=
 ⟨ownsRow_keptU h.1 k hn,h.2⟩
theorem CmAt.lt {N:Nat} {w:World} {v:Value} {cs:List Cmt} (h:CmAt N w v cs) (g:Nat) (e:v.ownBlock=some g):N≤g∧g < w.heap.size:=h.1.lt g e
theorem CmAt.low {N M:Nat} {w:World} {v:Value} {cs:List Cmt} (h:CmAt N w v cs) (hb:M≤N):CmAt M w v cs:=⟨own_low h.1 hb,h.2⟩
structure CmB (N:Nat) (w:World) (v:Value) (cs:List Cmt):Prop where
 cm:CmAt N w v cs
 len:cs.length≤1000100
theorem CmB.nil (N:Nat) (w:World):CmB N w nilS []:=⟨CmAt.nil N w,by simp⟩
theorem CmB.keptU {N M:Nat} {S:Nat→TypeId→Prop} {w w':World} {v:Value} {cs:List Cmt} (h:CmB M w v cs) (k:Ku N S w w') (hn:∀ g,v.ownBlock=some g→¬ S g 194):CmB M w' v cs:=⟨h.cm.keptU k hn,h.len⟩
def Fresh (w:World) (u v:Value):Prop:=∀ g,v.ownBlock=some g→u.ownBlock=some g∨w.heap.size≤g
theorem Fresh.refl (w:World) (v:Value):Fresh w v v:=fun _ e=>Or.inl e
theorem Fresh.trans {a b:World} {u v x:Value} (h:Fresh a u v) (k:Fresh b v x) (hs:a.heap.size≤b.heap.size):Fresh a u x:=fun g e=>by
 rcases k g e with k | k
 · exact h g k
 · exact Or.inr (by omega)
theorem Fresh.apart {w:World} {u v x:Value} (h:Fresh w u v) (ha:Apart x u) (hx:∀ g,x.ownBlock=some g→g < w.heap.size):Apart x v:=fun g e k=>by
 rcases h g k with h | h
 · exact ha g e h
 · have:=hx g e;omega
end
end Go.Proofs.YtifkpibjeamfkaaGreatFmt
