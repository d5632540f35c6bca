/-
  The lexer's small functions, one contract each.
  The lexer's state and readRune, peekPrefix, startToken over it.
  The lexer's peekPrefix, endToken.
-/
import Derived.Test.YtifkpibjeamfkaaGreatFmtZ01
set_option linter.unusedVariables false
set_option linter.unusedSimpArgs false
set_option maxRecDepth 100000
namespace Go.Proofs.YtifkpibjeamfkaaGreatFmt
section
open Go.RowKit Go.Proofs
set_option maxHeartbeats 400000 in
theorem decodeRune_ascii (b o:Nat) (n c:Nat) (k:Int) (w:World) (hn:0 < n) (hc:w.cell? ⟨b,o,none⟩=some (.int .u8 k)) (hk:k < 128) (hk0:0≤k) :
   Calls Tryz.prog 125 #[.slice (some ⟨b,o,none⟩) n c] w fun e w'=>e=.returned (.tuple #[.int .i32 k,.int .i64 1])∧w=w':=by
 go_enter Tryz.func125,Tryz.ntmps125
 go_wp2
 refine wp_loop_rounds 1 ?_
 rw [rounds_succ]
 go_wp2
 go_ret2
 exact ⟨rfl,rfl⟩
theorem eof_any (B:Nat) (a:Option Addr) (n c:Nat) (w:World) (h2:w.cell? ⟨B,2,none⟩=some (.slice a n c)) :
   Calls Tryz.prog 84 #[.pointer (some ⟨B,0,none⟩)] w fun e w'=>e=.returned (.bool ((n:Int) == 0))∧w=w':=by
 go_enter Tryz.func84,Tryz.ntmps84
 go_wp2
 go_ret
 exact ⟨rfl,rfl⟩
theorem peek_any (B:Nat) (k:Int) (w:World) (h2:w.cell? ⟨B,4,none⟩=some (.int .i64 k)) :
   Calls Tryz.prog 94 #[.pointer (some ⟨B,0,none⟩)] w fun e w'=>e=.returned (.int .i64 k)∧w=w':=by
 go_enter Tryz.func94,Tryz.ntmps94
 go_wp2
 go_ret
 exact ⟨rfl,rfl⟩
theorem peekRune_some (B b o n c:Nat) (k:Int) (w:World) (h2:w.cell? ⟨B,2,none⟩=some (.slice (some ⟨b,o,none⟩) n c)) (hn:0 < n) (hc:w.cell? ⟨b,o,none⟩=some (.int .u8 k)) (hk:k < 128) (hk0:0≤k) :
   Calls Tryz.prog 85 #[.pointer (some ⟨B,0,none⟩)] w fun e w'=>e=.returned (.int .i64 k)∧w=w':=by
 go_enter Tryz.func85,Tryz.ntmps85
 go_wp2_with (go_at_call 125;refine (decodeRune_ascii _ _ _ _ _ _ hn hc hk hk0).mono ?_;rintro e w' ⟨rfl,rfl⟩)
 go_ret
 exact ⟨rfl,rfl⟩
theorem peekRune_none (B:Nat) (a:Option Addr) (c:Nat) (w:World) (h2:w.cell? ⟨B,2,none⟩=some (.slice a 0 c)) :
   Calls Tryz.prog 85 #[.pointer (some ⟨B,0,none⟩)] w fun e w'=>e=.returned (.int .i64 0)∧w=w':=by
 go_enter Tryz.func85,Tryz.ntmps85
 go_wp2
 go_ret
 exact ⟨rfl,rfl⟩
end
section
open Go.RowKit Go.Proofs
def ch (T:List UInt8) (i:Nat):Nat:=(T.getD i 0).toNat
def lineAt (T:List UInt8):Nat→Nat
 | 0=>1
 | n+1=>if ch T n=10 then lineAt T n+1 else lineAt T n
def colAt (T:List UInt8):Nat→Nat
 | 0=>1
 | n+1=>if ch T n=10 then 1 else colAt T n+1
theorem lineAt_le (T:List UInt8) (n:Nat):lineAt T n≤n+1:=by
 induction n with
 | zero=>simp [lineAt]
 | succ n ih=>simp only [lineAt];split <;> omega
theorem colAt_le (T:List UInt8) (n:Nat):colAt T n≤n+1:=by
 induction n with
 | zero=>simp [colAt]
 | succ n ih=>simp only [colAt];split <;> omega
structure Lx where
 B:Nat
 D:Nat
 T:List UInt8
 C:Nat
 p:Nat
 q:Nat
 ts:Value
 kind:Int
 tl:Int
 tc:Int
 tb:Int
 el:Int
 ec:Int
 eb:Int
 text:ByteArray
 fn:Value
 com:Value
 file:Value
 perr:Value
 pre:Value
 post:Value
def Lx.cells (σ:Lx):Array Value :=
 #[σ.fn,.slice (some ⟨σ.D,0,none⟩) σ.T.length σ.C,.slice (some ⟨σ.D,σ.q,none⟩) (σ.T.length - σ.p) (σ.C - σ.p),σ.ts,
   .int .i64 σ.kind,.int .i64 σ.tl,.int .i64 σ.tc,.int .i64 σ.tb,.int .i64 σ.el,.int .i64 σ.ec,.int .i64 σ.eb,.string σ.text,
   .int .i64 (lineAt σ.T σ.p:Nat),.int .i64 (colAt σ.T σ.p:Nat),.int .i64 (σ.p:Nat),σ.com,σ.file,σ.perr,σ.pre,σ.post]
structure LxAt (w:World) (σ:Lx):Prop where
 blk:Blk w σ.B 155 σ.cells
 txt:∀ j,j < σ.T.length→w.cell? ⟨σ.D,j,none⟩=some (.int .u8 (ch σ.T j:Nat))
 ascii:∀ j,ch σ.T j < 128
 hp:σ.p≤σ.T.length
 hn:σ.T.length≤σ.C
 hC:σ.C≤9223372036854775807
 hT:σ.T.length≤1152921504606846976
 hq:σ.p < σ.C→σ.q=σ.p
 dat:∃ cs fz,w.heap[σ.D]?=some (.cells cs 5 fz)
theorem LxAt.hD {w:World} {σ:Lx} (h:LxAt w σ):σ.D < w.heap.size:=by
 obtain ⟨cs,fz,e⟩:=h.dat
 exact (Array.getElem?_eq_some_iff.1 e).1
theorem LxAt.ne {w:World} {σ:Lx} (h:LxAt w σ):σ.D≠σ.B:=by
 obtain ⟨cs,fz,e⟩:=h.dat
 intro he
 have hb:=h.blk.out
 rw [he,hb] at e
 injection e with e
 injection e with _ e
 exact absurd e (by decide)
def Lx.adv (σ:Lx):Lx:={ σ with p:=σ.p+1,q:=if σ.p+1 < σ.C then σ.p+1 else σ.q }
theorem LxAt.c2 {w:World} {σ:Lx} (h:LxAt w σ):w.cell? ⟨σ.B,2,none⟩=some (.slice (some ⟨σ.D,σ.q,none⟩) (σ.T.length - σ.p) (σ.C - σ.p)):=h.blk.cell 2 rfl
theorem LxAt.c3 {w:World} {σ:Lx} (h:LxAt w σ):w.cell? ⟨σ.B,3,none⟩=some σ.ts:=h.blk.cell 3 rfl
theorem LxAt.c1 {w:World} {σ:Lx} (h:LxAt w σ):w.cell? ⟨σ.B,1,none⟩=some (.slice (some ⟨σ.D,0,none⟩) σ.T.length σ.C):=h.blk.cell 1 rfl
theorem LxAt.c4 {w:World} {σ:Lx} (h:LxAt w σ):w.cell? ⟨σ.B,4,none⟩=some (.int .i64 σ.kind):=h.blk.cell 4 rfl
theorem LxAt.c5 {w:World} {σ:Lx} (h:LxAt w σ):w.cell? ⟨σ.B,5,none⟩=some (.int .i64 σ.tl):=h.blk.cell 5 rfl
theorem LxAt.c6 {w:World} {σ:Lx} (h:LxAt w σ):w.cell? ⟨σ.B,6,none⟩=some (.int .i64 σ.tc):=h.blk.cell 6 rfl
theorem LxAt.c7 {w:World} {σ:Lx} (h:LxAt w σ):w.cell? ⟨σ.B,7,none⟩=some (.int .i64 σ.tb):=h.blk.cell 7 rfl
theorem LxAt.c8 {w:World} {σ:Lx} (h:LxAt w σ):w.cell? ⟨σ.B,8,none⟩=some (.int .i64 σ.el):=h.blk.cell 8 rfl
theorem LxAt.c9 {w:World} {σ:Lx} (h:LxAt w σ):w.cell? ⟨σ.B,9,none⟩=some (.int .i64 σ.ec):=h.blk.cell 9 rfl
theorem LxAt.c10 {w:World} {σ:Lx} (h:LxAt w σ):w.cell? ⟨σ.B,10,none⟩=some (.int .i64 σ.eb):=h.blk.cell 10 rfl
theorem LxAt.c11 {w:World} {σ:Lx} (h:LxAt w σ):w.cell? ⟨σ.B,11,none⟩=some (.string σ.text):=h.blk.cell 11 rfl
theorem LxAt.c15 {w:World} {σ:Lx} (h:LxAt w σ):w.cell? ⟨σ.B,15,none⟩=some σ.com:=h.blk.cell 15 rfl
theorem LxAt.c16 {w:World} {σ:Lx} (h:LxAt w σ):w.cell? ⟨σ.B,16,none⟩=some σ.file:=h.blk.cell 16 rfl
theorem LxAt.c17 {w:World} {σ:Lx} (h:LxAt w σ):w.cell? ⟨σ.B,17,none⟩=some σ.perr:=h.blk.cell 17 rfl
theorem LxAt.c18 {w:World} {σ:Lx} (h:LxAt w σ):w.cell? ⟨σ.B,18,none⟩=some σ.pre:=h.blk.cell 18 rfl
theorem LxAt.c19 {w:World} {σ:Lx} (h:LxAt w σ):w.cell? ⟨σ.B,19,none⟩=some σ.post:=h.blk.cell 19 rfl
theorem LxAt.c12 {w:World} {σ:Lx} (h:LxAt w σ):w.cell? ⟨σ.B,12,none⟩=some (.int .i64 (lineAt σ.T σ.p:Nat)):=h.blk.cell 12 rfl
theorem LxAt.c13 {w:World} {σ:Lx} (h:LxAt w σ):w.cell? ⟨σ.B,13,none⟩=some (.int .i64 (colAt σ.T σ.p:Nat)):=h.blk.cell 13 rfl
theorem LxAt.c14 {w:World} {σ:Lx} (h:LxAt w σ):w.cell? ⟨σ.B,14,none⟩=some (.int .i64 (σ.p:Nat)):=h.blk.cell 14 rfl
theorem LxAt.cur {w:World} {σ:Lx} (h:LxAt w σ) (hp:σ.p < σ.T.length):w.cell? ⟨σ.D,σ.q,none⟩=some (.int .u8 (ch σ.T σ.p:Nat)):=by
 rw [h.hq (by have:=h.hn;omega)];exact h.txt _ hp
theorem LxAt.upd {w w':World} {σ σ':Lx} (h:LxAt w σ) (k:Kp (fun i=>i=σ.B) w w') (hb:Blk w' σ.B 155 σ'.cells)
   (e1:σ'.B=σ.B) (e2:σ'.D=σ.D) (e3:σ'.T=σ.T) (e4:σ'.C=σ.C) (hp:σ'.p≤σ.T.length) (hq:σ'.p < σ.C→σ'.q=σ'.p):LxAt w' σ':=by
 refine ⟨by rw [e1];exact hb,?_,by rw [e3];exact h.ascii,by rw [e3];exact hp,by rw [e3,e4];exact h.hn,by rw [e4];exact h.hC,by rw [e3];exact h.hT,by rw [e4];exact hq,?_⟩
 rotate_left
 · rw [e2]
   obtain ⟨cs,fz,e⟩:=h.dat
   exact ⟨cs,fz,(k.block _ h.hD h.ne).trans e⟩
 intro j hj
 rw [e2,e3]
 rw [e3] at hj
 rw [World.cell?_of_block (w:=w) (k.block _ h.hD (by exact h.ne))]
 exact h.txt j hj
theorem Lx.adv_cells (σ:Lx) (a:Nat) (l c:Int) (hq:σ.q=σ.p) (ha:(σ.p+1 < σ.C→a=σ.p+1)∧(¬ σ.p+1 < σ.C→a=σ.p))
   (hl:l=if ch σ.T σ.p=10 then (lineAt σ.T σ.p:Int)+1 else lineAt σ.T σ.p) (hc:c=if ch σ.T σ.p=10 then 1 else (colAt σ.T σ.p:Int)+1) :
   σ.adv.cells=(((σ.cells.setIfInBounds 2 (.slice (some ⟨σ.D,a,none⟩) (σ.T.length - σ.p - 1) (σ.C - σ.p - 1))).setIfInBounds 12 (.int .i64 l)).setIfInBounds 13 (.int .i64 c)).setIfInBounds 14 (.int .i64 ((σ.p:Int)+1)):=by
 have e1:(if σ.p+1 < σ.C then σ.p+1 else σ.q)=a:=by
   split
   · rename_i h;exact (ha.1 h).symm
   · rename_i h;rw [hq];exact (ha.2 h).symm
 have e2:(lineAt σ.T (σ.p+1):Int)=l:=by rw [hl];simp only [lineAt];split <;> omega
 have e3:(colAt σ.T (σ.p+1):Int)=c:=by rw [hc];simp only [colAt];split <;> omega
 have e4:σ.T.length - (σ.p+1)=σ.T.length - σ.p - 1:=by omega
 have e5:σ.C - (σ.p+1)=σ.C - σ.p - 1:=by omega
 have e6:((σ.p+1:Nat):Int)=(σ.p:Int)+1:=by omega
 simp only [Lx.cells,Lx.adv,e1,e2,e3,e4,e5,e6]
 rfl
theorem setSkip (cs:Array Value) (j:Nat) (v:Value) (h:cs[j]?=some v):cs=cs.setIfInBounds j v:=by
 apply Array.ext_getElem?
 intro i
 rw [Array.getElem?_setIfInBounds]
 split
 · rename_i e;subst e;split
   · exact h
   · rename_i hlt;rw [Array.getElem?_eq_none (by omega)]
 · rfl
set_option maxHeartbeats 400000 in
theorem readRune_at (σ:Lx) (w:World) (h:LxAt w σ) (hlt:σ.p < σ.T.length) :
   Calls Tryz.prog 86 #[.pointer (some ⟨σ.B,0,none⟩)] w fun e w'=>e=.returned (.int .i64 (ch σ.T σ.p:Nat))∧LxAt w' σ.adv∧Kp (fun i=>i=σ.B) w w':=by
 have h2:=h.c2
 have h12:=h.c12
 have h13:=h.c13
 have h14:=h.c14
 have hc:=h.cur hlt
 have hf:=fun j=>h.blk.free j
 have hl:=lineAt_le σ.T σ.p
 have hr:=colAt_le σ.T σ.p
 have hk:=h.ascii σ.p
 have hn:=h.hn
 have hCm:=h.hC
 have hTm:=h.hT
 have hq:=h.hq (by omega)
 have key:∀ (W:World),Blk W σ.B 155 σ.adv.cells→Kp (fun i=>i=σ.B) w W→LxAt W σ.adv∧Kp (fun i=>i=σ.B) w W:=fun W hb hk=>by
   refine ⟨h.upd hk hb rfl rfl rfl rfl (by simp [Lx.adv];omega) (by simp only [Lx.adv];intro hh;rw [if_pos hh]),hk⟩
 have hb:=h.blk
 have hline:=h.blk.cell 12 rfl
 clear h
 have H:=hide key
 clear key
 have Hq:=hide hq
 clear hq
 have hnl:(((ch σ.T σ.p:Nat):Int) == 10)=true∨(((ch σ.T σ.p:Nat):Int) == 10)=false:=by cases (((ch σ.T σ.p:Nat):Int) == 10) <;> simp
 rcases hnl with hnl | hnl <;> by_cases hc1:1 < σ.C - σ.p
 all_goals
   go_enter Tryz.func86,Tryz.ntmps86
   go_wp2_with (go_at_call 125;refine (decodeRune_ascii _ _ _ _ _ _ (by omega) hc (by omega) (by omega)).mono ?_;rintro e w' ⟨rfl,rfl⟩)
   go_ret
   refine ⟨rfl,H.out _ ?_ ?_⟩
   rotate_left
   · repeat' (first | exact Kp.refl _ _ | refine Kp.set ?_ (fun _=>rfl))
   have hq:=Hq.out
 · refine Blk.eq (((((hb.set 2 _).set 12 _).set 13 _).set 14 _)) (Lx.adv_cells σ _ _ _ hq ⟨fun _=>by omega,fun _=>by omega⟩ ?_ ?_).symm
   · simp only [beq_iff_eq] at hnl;rw [if_pos (by omega)]
   · simp only [beq_iff_eq] at hnl;rw [if_pos (by omega)]
 · refine Blk.eq (((((hb.set 2 _).set 12 _).set 13 _).set 14 _)) (?_:_=σ.adv.cells)
   rw [Lx.adv_cells σ σ.q _ _ hq ⟨fun _=>by omega,fun _=>by omega⟩ rfl rfl]
   simp only [beq_iff_eq] at hnl
   rw [if_pos (by omega),if_pos (by omega),show σ.C - σ.p - 1=0 from by omega]
 · refine Blk.eq ((((hb.set 2 _).set 13 _).set 14 _)) (?_:_=σ.adv.cells)
   rw [Lx.adv_cells σ (σ.q+1) _ _ hq ⟨fun _=>by omega,fun _=>by omega⟩ rfl rfl]
   simp only [beq_eq_false_iff_ne] at hnl
   rw [if_neg (by omega),if_neg (by omega),← setSkip (σ.cells.setIfInBounds 2 _) 12 _ (by rfl)]
 · refine Blk.eq ((((hb.set 2 _).set 13 _).set 14 _)) (?_:_=σ.adv.cells)
   rw [Lx.adv_cells σ σ.q _ _ hq ⟨fun _=>by omega,fun _=>by omega⟩ rfl rfl]
   simp only [beq_eq_false_iff_ne] at hnl
   rw [if_neg (by omega),if_neg (by omega),← setSkip (σ.cells.setIfInBounds 2 _) 12 _ (by rfl),show σ.C - σ.p - 1=0 from by omega]
def Lx.started (σ:Lx):Lx:={ σ with ts:=.slice (some ⟨σ.D,σ.q,none⟩) (σ.T.length - σ.p) (σ.C - σ.p),text:=⟨#[]⟩,tl:=(lineAt σ.T σ.p:Nat),tc:=(colAt σ.T σ.p:Nat),tb:=(σ.p:Nat) }
set_option maxHeartbeats 400000 in
theorem startToken_at (σ:Lx) (w:World) (h:LxAt w σ) (hts:∃ a n c,σ.ts=.slice a n c) :
   Calls Tryz.prog 88 #[.pointer (some ⟨σ.B,0,none⟩)] w fun e w'=>e=.returned (.tuple #[])∧LxAt w' σ.started∧Kp (fun i=>i=σ.B) w w':=by
 obtain ⟨a,n,c,hts⟩:=hts
 have h2:=h.c2
 have h12:=h.c12
 have h13:=h.c13
 have h14:=h.c14
 have h3:=h.c3
 have h5:=h.c5
 have h6:=h.c6
 have h7:=h.c7
 have h11:=h.c11
 rw [hts] at h3
 clear hts
 have hf:=fun j=>h.blk.free j
 have key:∀ (W:World),Blk W σ.B 155 σ.started.cells→Kp (fun i=>i=σ.B) w W→LxAt W σ.started∧Kp (fun i=>i=σ.B) w W:=fun W hb hk =>
   ⟨h.upd hk hb rfl rfl rfl rfl h.hp h.hq,hk⟩
 have hb:=h.blk
 clear h
 have H:=hide key
 clear key
 go_enter Tryz.func88,Tryz.ntmps88
 go_wp2
 go_end0
 refine ⟨rfl,H.out _ (Blk.eq (((((hb.set 3 _).set 11 _).set 5 _).set 6 _).set 7 _) rfl) ?_⟩
 repeat' (first | exact Kp.refl _ _ | refine Kp.set ?_ (fun _=>rfl))
end
section
open Go.RowKit Go.Proofs
set_option maxHeartbeats 400000 in
theorem peekPrefix_yes0 (B D p N c:Nat) (w:World) (h2:w.cell? ⟨B,2,none⟩=some (.slice (some ⟨D,p,none⟩) N c)) (hN:1 < N) (hM:N≤1152921504606846976)
   (hc0:w.cell? ⟨D,p,none⟩=some (.int .u8 47)) (hc1:w.cell? ⟨D,p+1,none⟩=some (.int .u8 47)) :
   Calls Tryz.prog 87 #[.pointer (some ⟨B,0,none⟩),.string ⟨#[47,47]⟩] w fun e w'=>e=.returned (.bool true)∧∃ n,w'=w.drewN n:=by
 have g0:decide (N=0)=false:=by simp;omega
 have g1:decide ((N:Int)≤1)=false:=by simp;omega
 have hN0:(0:Int) < (N:Int):=by omega
 have hN1:(1:Int) < (N:Int):=by omega
 have hN2:0 < N:=by omega
 have b0:((⟨#[47,47]⟩:ByteArray)[0]'(by decide)).toNat=47:=rfl
 have b1:((⟨#[47,47]⟩:ByteArray)[1]'(by decide)).toNat=47:=rfl
 go_enter Tryz.func87,Tryz.ntmps87
 go_wp2
 refine wp_loop_rounds 3 ?_
 rw [rounds_succ]
 go_wp2
 go_quiet (fail)
 go_wp2
 rw [rounds_succ]
 go_wp2
 go_quiet (fail)
 go_wp2
 rw [rounds_succ]
 go_wp2
 go_ret
 first | exact ⟨rfl,_,rfl⟩ | exact ⟨rfl,_,World.drewN_drewN ..⟩
set_option maxHeartbeats 400000 in
theorem peekPrefix_no0sl (B:Nat) (a:Option Addr) (c:Nat) (w:World) (h2:w.cell? ⟨B,2,none⟩=some (.slice a 0 c)) :
   Calls Tryz.prog 87 #[.pointer (some ⟨B,0,none⟩),.string ⟨#[47,47]⟩] w fun e w'=>e=.returned (.bool false)∧∃ n,w'=w.drewN n:=by
 have b0:((⟨#[47,47]⟩:ByteArray)[0]'(by decide)).toNat=47:=rfl
 have b1:((⟨#[47,47]⟩:ByteArray)[1]'(by decide)).toNat=47:=rfl
 go_enter Tryz.func87,Tryz.ntmps87
 go_wp2
 refine wp_loop_rounds 3 ?_
 rw [rounds_succ]
 go_wp2
 go_quiet (fail)
 go_wp2
 go_ret
 first | exact ⟨rfl,_,rfl⟩ | exact ⟨rfl,_,World.drewN_drewN ..⟩
set_option maxHeartbeats 400000 in
theorem peekPrefix_no1sl (B D p N c:Nat) (k:Int) (w:World) (h2:w.cell? ⟨B,2,none⟩=some (.slice (some ⟨D,p,none⟩) N c)) (hN:0 < N) (hM:N≤1152921504606846976)
   (hc0:w.cell? ⟨D,p,none⟩=some (.int .u8 k)) (hk:(k != 47)=true) :
   Calls Tryz.prog 87 #[.pointer (some ⟨B,0,none⟩),.string ⟨#[47,47]⟩] w fun e w'=>e=.returned (.bool false)∧∃ n,w'=w.drewN n:=by
 have g0:decide (N=0)=false:=by simp;omega
 have hN0:(0:Int) < (N:Int):=by omega
 have b0:((⟨#[47,47]⟩:ByteArray)[0]'(by decide)).toNat=47:=rfl
 have b1:((⟨#[47,47]⟩:ByteArray)[1]'(by decide)).toNat=47:=rfl
 go_enter Tryz.func87,Tryz.ntmps87
 go_wp2
 refine wp_loop_rounds 3 ?_
 rw [rounds_succ]
 go_wp2
 go_quiet (fail)
 go_wp2
 go_ret
 first | exact ⟨rfl,_,rfl⟩ | exact ⟨rfl,_,World.drewN_drewN ..⟩
set_option maxHeartbeats 400000 in
theorem peekPrefix_no2sl (B D p c:Nat) (w:World) (h2:w.cell? ⟨B,2,none⟩=some (.slice (some ⟨D,p,none⟩) 1 c))
   (hc0:w.cell? ⟨D,p,none⟩=some (.int .u8 47)) :
   Calls Tryz.prog 87 #[.pointer (some ⟨B,0,none⟩),.string ⟨#[47,47]⟩] w fun e w'=>e=.returned (.bool false)∧∃ n,w'=w.drewN n:=by
 have b0:((⟨#[47,47]⟩:ByteArray)[0]'(by decide)).toNat=47:=rfl
 have b1:((⟨#[47,47]⟩:ByteArray)[1]'(by decide)).toNat=47:=rfl
 go_enter Tryz.func87,Tryz.ntmps87
 go_wp2
 refine wp_loop_rounds 3 ?_
 rw [rounds_succ]
 go_wp2
 go_quiet (fail)
 go_wp2
 rw [rounds_succ]
 go_wp2
 go_quiet (fail)
 go_wp2
 go_ret
 first | exact ⟨rfl,_,rfl⟩ | exact ⟨rfl,_,World.drewN_drewN ..⟩
set_option maxHeartbeats 400000 in
theorem peekPrefix_no3sl (B D p N c:Nat) (k:Int) (w:World) (h2:w.cell? ⟨B,2,none⟩=some (.slice (some ⟨D,p,none⟩) N c)) (hN:1 < N) (hM:N≤1152921504606846976)
   (hc0:w.cell? ⟨D,p,none⟩=some (.int .u8 47)) (hc1:w.cell? ⟨D,p+1,none⟩=some (.int .u8 k)) (hk:(k != 47)=true) :
   Calls Tryz.prog 87 #[.pointer (some ⟨B,0,none⟩),.string ⟨#[47,47]⟩] w fun e w'=>e=.returned (.bool false)∧∃ n,w'=w.drewN n:=by
 have g0:decide (N=0)=false:=by simp;omega
 have g1:decide ((N:Int)≤1)=false:=by simp;omega
 have hN0:(0:Int) < (N:Int):=by omega
 have hN1:(1:Int) < (N:Int):=by omega
 have hN2:0 < N:=by omega
 have b0:((⟨#[47,47]⟩:ByteArray)[0]'(by decide)).toNat=47:=rfl
 have b1:((⟨#[47,47]⟩:ByteArray)[1]'(by decide)).toNat=47:=rfl
 go_enter Tryz.func87,Tryz.ntmps87
 go_wp2
 refine wp_loop_rounds 3 ?_
 rw [rounds_succ]
 go_wp2
 go_quiet (fail)
 go_wp2
 rw [rounds_succ]
 go_wp2
 go_quiet (fail)
 go_wp2
 go_ret
 first | exact ⟨rfl,_,rfl⟩ | exact ⟨rfl,_,World.drewN_drewN ..⟩
theorem peekPrefix_nosl (σ:Lx) (w:World) (h:LxAt w σ) (hno:¬ (σ.p+1 < σ.T.length∧ch σ.T σ.p=47∧ch σ.T (σ.p+1)=47)) :
   Calls Tryz.prog 87 #[.pointer (some ⟨σ.B,0,none⟩),.string ⟨#[47,47]⟩] w fun e w'=>e=.returned (.bool false)∧∃ n,w'=w.drewN n:=by
 have h2:=h.c2
 have hn:=h.hn
 have hCm:=h.hC
 have hTm:=h.hT
 have hp:=h.hp
 by_cases h0:σ.p=σ.T.length
 · rw [show σ.T.length - σ.p=0 from by omega] at h2
   exact peekPrefix_no0sl _ _ _ _ h2
 have hq:=h.hq (by omega)
 rw [hq] at h2
 have hc0:=h.txt σ.p (by omega)
 by_cases h1:ch σ.T σ.p=47
 · rw [h1] at hc0
   by_cases h3:σ.p+1=σ.T.length
   · rw [show σ.T.length - σ.p=1 from by omega] at h2
     exact peekPrefix_no2sl _ _ _ _ _ h2 hc0
   · have hc1:=h.txt (σ.p+1) (by omega)
     exact peekPrefix_no3sl _ _ _ _ _ _ _ h2 (by omega) (by omega) hc0 hc1 (by rw [bne_iff_ne];omega)
 · exact peekPrefix_no1sl _ _ _ _ _ _ _ h2 (by omega) (by omega) hc0 (by rw [bne_iff_ne];omega)
set_option maxHeartbeats 400000 in
theorem peekPrefix_no0st (B:Nat) (a:Option Addr) (c:Nat) (w:World) (h2:w.cell? ⟨B,2,none⟩=some (.slice a 0 c)) :
   Calls Tryz.prog 87 #[.pointer (some ⟨B,0,none⟩),.string ⟨#[47,42]⟩] w fun e w'=>e=.returned (.bool false)∧∃ n,w'=w.drewN n:=by
 have b0:((⟨#[47,42]⟩:ByteArray)[0]'(by decide)).toNat=47:=rfl
 have b1:((⟨#[47,42]⟩:ByteArray)[1]'(by decide)).toNat=42:=rfl
 go_enter Tryz.func87,Tryz.ntmps87
 go_wp2
 refine wp_loop_rounds 3 ?_
 rw [rounds_succ]
 go_wp2
 go_quiet (fail)
 go_wp2
 go_ret
 first | exact ⟨rfl,_,rfl⟩ | exact ⟨rfl,_,World.drewN_drewN ..⟩
set_option maxHeartbeats 400000 in
theorem peekPrefix_no1st (B D p N c:Nat) (k:Int) (w:World) (h2:w.cell? ⟨B,2,none⟩=some (.slice (some ⟨D,p,none⟩) N c)) (hN:0 < N) (hM:N≤1152921504606846976)
   (hc0:w.cell? ⟨D,p,none⟩=some (.int .u8 k)) (hk:(k != 47)=true) :
   Calls Tryz.prog 87 #[.pointer (some ⟨B,0,none⟩),.string ⟨#[47,42]⟩] w fun e w'=>e=.returned (.bool false)∧∃ n,w'=w.drewN n:=by
 have g0:decide (N=0)=false:=by simp;omega
 have hN0:(0:Int) < (N:Int):=by omega
 have b0:((⟨#[47,42]⟩:ByteArray)[0]'(by decide)).toNat=47:=rfl
 have b1:((⟨#[47,42]⟩:ByteArray)[1]'(by decide)).toNat=42:=rfl
 go_enter Tryz.func87,Tryz.ntmps87
 go_wp2
 refine wp_loop_rounds 3 ?_
 rw [rounds_succ]
 go_wp2
 go_quiet (fail)
 go_wp2
 go_ret
 first | exact ⟨rfl,_,rfl⟩ | exact ⟨rfl,_,World.drewN_drewN ..⟩
set_option maxHeartbeats 400000 in
theorem peekPrefix_no2st (B D p c:Nat) (w:World) (h2:w.cell? ⟨B,2,none⟩=some (.slice (some ⟨D,p,none⟩) 1 c))
   (hc0:w.cell? ⟨D,p,none⟩=some (.int .u8 47)) :
   Calls Tryz.prog 87 #[.pointer (some ⟨B,0,none⟩),.string ⟨#[47,42]⟩] w fun e w'=>e=.returned (.bool false)∧∃ n,w'=w.drewN n:=by
 have b0:((⟨#[47,42]⟩:ByteArray)[0]'(by decide)).toNat=47:=rfl
 have b1:((⟨#[47,42]⟩:ByteArray)[1]'(by decide)).toNat=42:=rfl
 go_enter Tryz.func87,Tryz.ntmps87
 go_wp2
 refine wp_loop_rounds 3 ?_
 rw [rounds_succ]
 go_wp2
 go_quiet (fail)
 go_wp2
 rw [rounds_succ]
 go_wp2
 go_quiet (fail)
 go_wp2
 go_ret
 first | exact ⟨rfl,_,rfl⟩ | exact ⟨rfl,_,World.drewN_drewN ..⟩
set_option maxHeartbeats 400000 in
theorem peekPrefix_no3st (B D p N c:Nat) (k:Int) (w:World) (h2:w.cell? ⟨B,2,none⟩=some (.slice (some ⟨D,p,none⟩) N c)) (hN:1 < N) (hM:N≤1152921504606846976)
   (hc0:w.cell? ⟨D,p,none⟩=some (.int .u8 47)) (hc1:w.cell? ⟨D,p+1,none⟩=some (.int .u8 k)) (hk:(k != 42)=true) :
   Calls Tryz.prog 87 #[.pointer (some ⟨B,0,none⟩),.string ⟨#[47,42]⟩] w fun e w'=>e=.returned (.bool false)∧∃ n,w'=w.drewN n:=by
 have g0:decide (N=0)=false:=by simp;omega
 have g1:decide ((N:Int)≤1)=false:=by simp;omega
 have hN0:(0:Int) < (N:Int):=by omega
 have hN1:(1:Int) < (N:Int):=by omega
 have hN2:0 < N:=by omega
 have b0:((⟨#[47,42]⟩:ByteArray)[0]'(by decide)).toNat=47:=rfl
 have b1:((⟨#[47,42]⟩:ByteArray)[1]'(by decide)).toNat=42:=rfl
 go_enter Tryz.func87,Tryz.ntmps87
 go_wp2
 refine wp_loop_rounds 3 ?_
 rw [rounds_succ]
 go_wp2
 go_quiet (fail)
 go_wp2
 rw [rounds_succ]
 go_wp2
 go_quiet (fail)
 go_wp2
 go_ret
 first | exact ⟨rfl,_,rfl⟩ | exact ⟨rfl,_,World.drewN_drewN ..⟩
theorem peekPrefix_nost (σ:Lx) (w:World) (h:LxAt w σ) (hno:¬ (σ.p+1 < σ.T.length∧ch σ.T σ.p=47∧ch σ.T (σ.p+1)=42)) :
   Calls Tryz.prog 87 #[.pointer (some ⟨σ.B,0,none⟩),.string ⟨#[47,42]⟩] w fun e w'=>e=.returned (.bool false)∧∃ n,w'=w.drewN n:=by
 have h2:=h.c2
 have hn:=h.hn
 have hCm:=h.hC
 have hTm:=h.hT
 have hp:=h.hp
 by_cases h0:σ.p=σ.T.length
 · rw [show σ.T.length - σ.p=0 from by omega] at h2
   exact peekPrefix_no0st _ _ _ _ h2
 have hq:=h.hq (by omega)
 rw [hq] at h2
 have hc0:=h.txt σ.p (by omega)
 by_cases h1:ch σ.T σ.p=47
 · rw [h1] at hc0
   by_cases h3:σ.p+1=σ.T.length
   · rw [show σ.T.length - σ.p=1 from by omega] at h2
     exact peekPrefix_no2st _ _ _ _ _ h2 hc0
   · have hc1:=h.txt (σ.p+1) (by omega)
     exact peekPrefix_no3st _ _ _ _ _ _ _ h2 (by omega) (by omega) hc0 hc1 (by rw [bne_iff_ne];omega)
 · exact peekPrefix_no1st _ _ _ _ _ _ _ h2 (by omega) (by omega) hc0 (by rw [bne_iff_ne];omega)
theorem peekPrefix_yes (σ:Lx) (w:World) (h:LxAt w σ) (h1:σ.p+1 < σ.T.length) (h0:ch σ.T σ.p=47) (h3:ch σ.T (σ.p+1)=47) :
   Calls Tryz.prog 87 #[.pointer (some ⟨σ.B,0,none⟩),.string ⟨#[47,47]⟩] w fun e w'=>e=.returned (.bool true)∧∃ n,w'=w.drewN n:=by
 have h2:=h.c2
 have hn:=h.hn
 have hCm:=h.hC
 have hTm:=h.hT
 have hq:=h.hq (by omega)
 rw [hq] at h2
 have hc0:=h.txt σ.p (by omega)
 have hc1:=h.txt (σ.p+1) (by omega)
 rw [h0] at hc0
 rw [h3] at hc1
 exact peekPrefix_yes0 _ _ _ _ _ _ h2 (by omega) (by omega) hc0 hc1
end
end Go.Proofs.YtifkpibjeamfkaaGreatFmt
