/-
  The lexer's endToken.
  bytes.LastIndex of a newline; bytes.TrimSpace: is a stretch blank?
  unicode.IsSpace, unicode.IsPrint, isIdent at ASCII.
  The lexer's readToken: at the end of the file.
-/
import Derived.Test.YtifkpibjeamfkaaGreatFmtZ02
import Derived.Test.YtifkpibjeamfkaaGreatFmtZ03
import Derived.Laws.BytesArg
set_option linter.unusedVariables false
set_option linter.unusedSimpArgs false
set_option maxRecDepth 100000
namespace Go.Proofs.YtifkpibjeamfkaaGreatFmt
section
open Go.RowKit Go.Proofs
def seg (T:List UInt8) (s e:Nat):List UInt8:=(T.drop s).take (e - s)
theorem seg_length (T:List UInt8) (s e:Nat) (h:s≤e) (he:e≤T.length):(seg T s e).length=e - s:=by
 simp [seg];omega
theorem seg_snoc (T:List UInt8) (s e:Nat) (h:s≤e) (he:e < T.length):seg T s (e+1)=seg T s e++[T.getD e 0]:=by
 unfold seg
 have h1:e+1 - s=(e - s)+1:=by omega
 have h2:e - s < (T.drop s).length:=by simp;omega
 rw [h1,List.take_succ_eq_append_getElem h2]
 simp [List.getElem_drop,List.getD_eq_getElem?_getD,List.getElem?_eq_getElem he,show s+(e - s)=e from by omega]
theorem strOfNums_mk (l:List UInt8):strOfNums (l.map fun c=>(c.toNat:Int))=mkS l:=by
 simp [strOfNums,mkS,Function.comp_def]
theorem conv_seg {w:World} (T:List UInt8) (D s e q cap:Nat) (htxt:∀ j,j < T.length→w.cell? ⟨D,j,none⟩=some (.int .u8 (ch T j:Nat))) (hse:s≤e) (he:e≤T.length) (hq:s < e→q=s) :
   (convert 69 9 (.slice (some ⟨D,q,none⟩) (e - s) cap)).run Tryz.prog w=.ok (.string (mkS (seg T s e))) w:=by
 have hlen:((seg T s e).map fun c=>(c.toNat:Int)).length=e - s:=by rw [List.length_map,seg_length T s e hse he]
 have:=run_convert_bytes_arg (P:=Tryz.prog) w 69 5 (by kernel_rfl) (by kernel_rfl) D q (e - s) cap ((seg T s e).map fun c=>(c.toNat:Int)) hlen (fun i hi=>by
   rw [hq (by omega),htxt (s+i) (by omega)]
   have hi':i < (seg T s e).length:=by rw [seg_length T s e hse he];exact hi
   simp only [List.getD_eq_getElem?_getD,List.getElem?_map,List.getElem?_eq_getElem hi',Option.map_some,Option.getD_some]
   have h2:s+i < T.length:=by omega
   simp only [ch,List.getD_eq_getElem?_getD,List.getElem?_eq_getElem h2,Option.getD_some]
   simp [seg]) 9 (by kernel_rfl)
 rw [strOfNums_mk] at this
 exact this
theorem isComment_no (k:Int) (w:World) (h5:(k == -5)=false) (h2:(k == -2)=false) :
   Calls Tryz.prog 131 #[.int .i64 k] w fun e w'=>e=.returned (.bool false)∧w=w':=by
 go_enter Tryz.func131,Tryz.ntmps131
 go_wp2
 go_ret
 exact ⟨rfl,rfl⟩
theorem isComment_yes (k:Int) (w:World) (h:k=-5∨k=-2) :
   Calls Tryz.prog 131 #[.int .i64 k] w fun e w'=>e=.returned (.bool true)∧w=w':=by
 rcases h with rfl | rfl
 all_goals
   go_enter Tryz.func131,Tryz.ntmps131
   go_wp2
   go_ret
   exact ⟨rfl,rfl⟩
def Lx.ended (σ:Lx) (k:Int) (t:ByteArray):Lx:={ σ with kind:=k,text:=t,el:=(lineAt σ.T σ.p:Nat),ec:=(colAt σ.T σ.p:Nat),eb:=(σ.p:Nat) }
theorem seg_last (T:List UInt8) (s e:Nat) (h:s < e) (he:e≤T.length):seg T s e=seg T s (e - 1)++[T.getD (e - 1) 0]:=by
 have:=seg_snoc T s (e - 1) (by omega) (by omega)
 rwa [show e - 1+1=e from by omega] at this
theorem ch_eq (T:List UInt8) (i n:Nat) (h:ch T i=n) (hn:n < 256):T.getD i 0=UInt8.ofNat n:=by
 unfold ch at h
 subst h
 simp
theorem suffix_crlf (T:List UInt8) (s p:Nat) (h:s+2≤p) (he:p≤T.length) (hprev:ch T (p - 2)≠13):Lib.hasSuffix (seg T s p) [13,10]=false:=by
 rw [seg_last T s p (by omega) he,seg_last T s (p - 1) (by omega) (by omega)]
 have h13:T.getD (p - 1 - 1) 0≠13:=by
   intro e
   apply hprev
   unfold ch
   rw [show p - 2=p - 1 - 1 from by omega,e]
   rfl
 simp only [Lib.hasSuffix,List.isSuffixOf,List.reverse_append,List.reverse_cons,List.reverse_nil,List.nil_append,List.cons_append,List.isPrefixOf]
 have:((13:UInt8) == T.getD (p - 1 - 1) 0)=false:=by simpa using fun e=>h13 (by first | exact e.symm | exact e)
 simp only [this]
 simp
theorem suffix_lf (T:List UInt8) (s p:Nat) (h:s+2≤p) (he:p≤T.length) (hlast:ch T (p - 1)=10):Lib.trimSuffix (seg T s p) [10]=seg T s (p - 1):=by
 have h10:=ch_eq T (p - 1) 10 hlast (by omega)
 rw [seg_last T s p (by omega) he,h10]
 simp [Lib.trimSuffix,Lib.hasSuffix,List.isSuffixOf]
set_option maxHeartbeats 400000 in
theorem endToken_plain (σ:Lx) (s qs:Nat) (k:Int) (w:World) (h:LxAt w σ) (hts:σ.ts=.slice (some ⟨σ.D,qs,none⟩) (σ.T.length - s) (σ.C - s)) (hs:s≤σ.p) (hqs:s < σ.p→qs=s)
   (h5:(k == -5)=false) (hk2:(k == -2)=false) :
   Calls Tryz.prog 91 #[.pointer (some ⟨σ.B,0,none⟩),.int .i64 k] w fun e w'=>e=.returned (.tuple #[])∧LxAt w' (σ.ended k (mkS (seg σ.T s σ.p)))∧Kp (fun i=>i=σ.B) w w':=by
 have h2:=h.c2
 have h3:=h.c3
 rw [hts] at h3
 clear hts
 have h4:=h.c4
 have h8:=h.c8
 have h9:=h.c9
 have h10:=h.c10
 have h11:=h.c11
 have h12:=h.c12
 have h13:=h.c13
 have h14:=h.c14
 have hf:=fun j=>h.blk.free j
 have hp:=h.hp
 have hn:=h.hn
 have hC:=h.hC
 have hTm:=h.hT
 have key:∀ (W:World),Blk W σ.B 155 (σ.ended k (mkS (seg σ.T s σ.p))).cells→Kp (fun i=>i=σ.B) w W→LxAt W (σ.ended k (mkS (seg σ.T s σ.p)))∧Kp (fun i=>i=σ.B) w W:=fun W hb hk =>
   ⟨h.upd hk hb rfl rfl rfl rfl h.hp h.hq,hk⟩
 have hb:=h.blk
 have hconv:∀ n,(convert 69 9 (.slice (some ⟨σ.D,qs,none⟩) (σ.T.length - s - (σ.T.length - σ.p)) (σ.C - s))).run Tryz.prog ((w.setCell ⟨σ.B,4,none⟩ (.int .i64 k)).drewN n)=.ok (.string (mkS (seg σ.T s σ.p))) ((w.setCell ⟨σ.B,4,none⟩ (.int .i64 k)).drewN n):=fun n=>by
   rw [show σ.T.length - s - (σ.T.length - σ.p)=σ.p - s from by omega]
   refine conv_seg σ.T σ.D s σ.p qs _ (fun j hj=>?_) hs hp hqs
   have:=h.txt j hj
   have hk:Kp (fun i=>i=σ.B) w ((w.setCell ⟨σ.B,4,none⟩ (.int .i64 k)).drewN n):=by
     refine Kp.drewN ?_ _
     refine Kp.set ?_ (fun _=>rfl)
     exact Kp.refl _ _
   rw [World.cell?_of_block (w:=w) (hk.block _ h.hD h.ne)]
   exact this
 have e1:((σ.T.length - s:Nat):Int) - ((σ.T.length - σ.p:Nat):Int)=((σ.T.length - s - (σ.T.length - σ.p):Nat):Int):=by omega
 clear h
 generalize hN1:σ.T.length - s=N1 at *
 generalize hN2:σ.T.length - σ.p=N2 at *
 have hle:N2≤N1:=by omega
 have hN1c:N1≤σ.C - s:=by omega
 have hN1m:N1≤1152921504606846976:=by omega
 clear e1
 have H:=hide key
 clear key
 have E1:=hide hN1
 have E2:=hide hN2
 clear hN1 hN2
 go_enter Tryz.func91,Tryz.ntmps91
 go_wp2
 go_quiet (fail)
 clear hconv
 go_wp2_with (go_at_call 131;refine (isComment_no _ _ h5 hk2).mono ?_;rintro e w' ⟨rfl,rfl⟩)
 go_end0
 refine ⟨rfl,H.out _ ?_ ?_⟩
 · exact Blk.eq ((((((hb.set 4 _).drewN _).set 11 _).set 8 _).set 9 _).set 10 _) rfl
 · repeat' (first | exact Kp.refl _ _ | refine Kp.set ?_ (fun _=>rfl) | refine Kp.drewN ?_ _)
set_option maxHeartbeats 400000 in
theorem endToken_comment (σ:Lx) (s qs:Nat) (k:Int) (w:World) (h:LxAt w σ) (hts:σ.ts=.slice (some ⟨σ.D,qs,none⟩) (σ.T.length - s) (σ.C - s)) (hs:s≤σ.p) (hqs:s < σ.p→qs=s)
   (hk:k=-5∨k=-2) (hp2:s+2≤σ.p) (hlast:ch σ.T (σ.p - 1)=10) (hprev:ch σ.T (σ.p - 2)≠13) :
   Calls Tryz.prog 91 #[.pointer (some ⟨σ.B,0,none⟩),.int .i64 k] w fun e w'=>e=.returned (.tuple #[])∧LxAt w' (σ.ended k (mkS (seg σ.T s (σ.p - 1))))∧Kp (fun i=>i=σ.B) w w':=by
 have h2:=h.c2
 have h3:=h.c3
 rw [hts] at h3
 clear hts
 have h4:=h.c4
 have h8:=h.c8
 have h9:=h.c9
 have h10:=h.c10
 have h11:=h.c11
 have h12:=h.c12
 have h13:=h.c13
 have h14:=h.c14
 have hf:=fun j=>h.blk.free j
 have hp:=h.hp
 have hn:=h.hn
 have hC:=h.hC
 have hTm:=h.hT
 have key:∀ (W:World),Blk W σ.B 155 (σ.ended k (mkS (seg σ.T s (σ.p - 1)))).cells→Kp (fun i=>i=σ.B) w W→LxAt W (σ.ended k (mkS (seg σ.T s (σ.p - 1))))∧Kp (fun i=>i=σ.B) w W:=fun W hb hk =>
   ⟨h.upd hk hb rfl rfl rfl rfl h.hp h.hq,hk⟩
 have hb:=h.blk
 have hconv:∀ n,(convert 69 9 (.slice (some ⟨σ.D,qs,none⟩) (σ.T.length - s - (σ.T.length - σ.p)) (σ.C - s))).run Tryz.prog ((w.setCell ⟨σ.B,4,none⟩ (.int .i64 k)).drewN n)=.ok (.string (mkS (seg σ.T s σ.p))) ((w.setCell ⟨σ.B,4,none⟩ (.int .i64 k)).drewN n):=fun n=>by
   rw [show σ.T.length - s - (σ.T.length - σ.p)=σ.p - s from by omega]
   refine conv_seg σ.T σ.D s σ.p qs _ (fun j hj=>?_) hs hp hqs
   have:=h.txt j hj
   have hk:Kp (fun i=>i=σ.B) w ((w.setCell ⟨σ.B,4,none⟩ (.int .i64 k)).drewN n):=by
     refine Kp.drewN ?_ _
     refine Kp.set ?_ (fun _=>rfl)
     exact Kp.refl _ _
   rw [World.cell?_of_block (w:=w) (hk.block _ h.hD h.ne)]
   exact this
 have e1:((σ.T.length - s:Nat):Int) - ((σ.T.length - σ.p:Nat):Int)=((σ.T.length - s - (σ.T.length - σ.p):Nat):Int):=by omega
 clear h
 generalize hN1:σ.T.length - s=N1 at *
 generalize hN2:σ.T.length - σ.p=N2 at *
 have hle:N2≤N1:=by omega
 have hN1c:N1≤σ.C - s:=by omega
 have hN1m:N1≤1152921504606846976:=by omega
 clear e1
 have H:=hide key
 have HS1:=hide (suffix_crlf σ.T s σ.p hp2 hp hprev)
 have HS2:=hide (suffix_lf σ.T s σ.p hp2 hp hlast)
 clear hlast hprev
 clear key
 have E1:=hide hN1
 have E2:=hide hN2
 clear hN1 hN2
 go_enter Tryz.func91,Tryz.ntmps91
 go_wp2
 go_quiet (fail)
 clear hconv
 go_wp2_with (first | (go_at_call 110;refine (hasSuffix_any _ _ _ (by rw [mkS_size,seg_length _ _ _ hs hp];omega)).mono ?_;rintro e w' ⟨rfl,rfl⟩;rw [mkS_list,HS1.out]) | (go_at_call 111;refine (trimSuffix_any _ _ _ (by rw [mkS_size,seg_length _ _ _ hs hp];omega)).mono ?_;rintro e w' ⟨rfl,rfl⟩;rw [mkS_list,HS2.out]) | (go_at_call 131;refine (isComment_yes _ _ hk).mono ?_;rintro e w' ⟨rfl,rfl⟩))
 go_end0
 refine ⟨rfl,H.out _ ?_ ?_⟩
 · exact Blk.eq ((((((hb.set 4 _).drewN _).set 11 _).set 8 _).set 9 _).set 10 _) rfl
 · repeat' (first | exact Kp.refl _ _ | refine Kp.set ?_ (fun _=>rfl) | refine Kp.drewN ?_ _)
end
section
open Go.RowKit Go.Proofs
def lastNL (T:List UInt8):Nat→Int
 | 0=>-1
 | n+1=>if ch T n=10 then (n:Int) else lastNL T n
theorem lastNL_bd (T:List UInt8) (n:Nat):-1≤lastNL T n∧lastNL T n < n:=by
 induction n with
 | zero=>simp [lastNL]
 | succ n ih=>simp only [lastNL];split <;> omega
set_option maxHeartbeats 400000 in
theorem lastIndexByte_nl (T:List UInt8) (D n c:Nat) (w:World) (htxt:∀ j,j < n→w.cell? ⟨D,j,none⟩=some (.int .u8 (ch T j:Nat))) (hn:n≤1152921504606846976) :
   Calls Tryz.prog 126 #[.slice (some ⟨D,0,none⟩) n c,.int .u8 10] w fun e w'=>e=.returned (.int .i64 (lastNL T n))∧w=w':=by
 go_enter Tryz.func126,Tryz.ntmps126
 go_wp2
 go_loop [5] (fun i=>∃ k:Nat,k≤n∧i=.int .i64 ((k:Int) - 1)∧Hid (lastNL T n=lastNL T k)) (fun i=>(intOf i+1).toNat)
 case atStart=>exact ⟨n,Nat.le_refl _,rfl,hide rfl⟩
 case round =>
   obtain ⟨k,hk,rfl,hrel⟩:=hrel
   rcases Nat.eq_zero_or_pos k with h0 | h0
   · subst h0
     go_wp2
     go_ret
     refine ⟨?_,rfl⟩
     rw [hrel.out]
     rfl
   · obtain ⟨j,rfl⟩:∃ j,k=j+1:=⟨k - 1,by omega⟩
     have hc:=htxt j (by omega)
     have hch:ch T j < 256:=by unfold ch;exact UInt8.toNat_lt _
     rw [show ((j+1:Nat):Int) - 1=(j:Int) from by omega]
     have hlt:j < n:=by omega
     clear htxt
     cases h10:(((ch T j:Nat):Int) == 10)
     · have hrel':Hid (lastNL T n=lastNL T j):=by
         rw [beq_eq_false_iff_ne] at h10
         have:=hrel.out
         simp only [lastNL] at this
         rw [if_neg (by omega)] at this
         exact this
       clear hrel
       go_wp2
       go_round
       case rel=>exact ⟨j,by omega,rfl,hrel'⟩
       case measure=>(simp [intOf] <;> omega)
     · have hrel':Hid (lastNL T n=(j:Int)):=by
         rw [beq_iff_eq] at h10
         have:=hrel.out
         simp only [lastNL] at this
         rw [if_pos (by omega)] at this
         exact this
       clear hrel
       go_wp2
       go_ret
       refine ⟨?_,rfl⟩
       rw [hrel'.out]
       rfl
theorem lastIndex_nl (T:List UInt8) (D n c X cx:Nat) (w:World) (htxt:∀ j,j < n→w.cell? ⟨D,j,none⟩=some (.int .u8 (ch T j:Nat))) (hn:n≤1152921504606846976) (hx:w.cell? ⟨X,0,none⟩=some (.int .u8 10)) :
   Calls Tryz.prog 89 #[.slice (some ⟨D,0,none⟩) n c,.slice (some ⟨X,0,none⟩) 1 cx] w fun e w'=>e=.returned (.int .i64 (lastNL T n))∧w=w':=by
 have H:=hide htxt
 clear htxt
 go_enter Tryz.func89,Tryz.ntmps89
 go_wp2_with (go_at_call 126;refine (lastIndexByte_nl _ _ _ _ _ H.out hn).mono ?_;rintro e w' ⟨rfl,rfl⟩)
 go_ret
 exact ⟨rfl,rfl⟩
end
section
open Go.RowKit Go.Proofs
theorem ret_bool {a b:Bool} (h:a=b):Ending.returned (.bool a)=.returned (.bool b):=by rw [h]
def PrTab (w:World):Prop:=∀ c,c < 128→∃ v:Int,w.cell? ⟨0,c,none⟩=some (.int .u8 v)∧0≤v∧v < 256∧(bits BinOp.and IntKind.u8 v 128 != 0)=decide (32≤c∧c≤126)
theorem isPrint_ascii (c:Nat) (w:World) (hc:c < 128) (ht:PrTab w) :
   Calls Tryz.prog 54 #[.int .i32 (c:Int)] w fun e w'=>e=.returned (.bool (decide (32≤c∧c≤126)))∧w=w':=by
 obtain ⟨v,hv,h0,h1,hb⟩:=ht c hc
 have hc':(c:Int) < 128:=by omega
 have H:=hide hb
 clear hb ht
 go_enter Tryz.func54,Tryz.ntmps54
 go_wp2
 go_ret
 exact ⟨ret_bool H.out,rfl⟩
def spB (c:Nat):Bool:=decide (c=32∨(9≤c∧c≤13))
set_option maxHeartbeats 1000000 in
theorem isSpace_ascii (c:Nat) (w:World) (hc:c < 128) :
   Calls Tryz.prog 130 #[.int .i32 (c:Int)] w fun e w'=>e=.returned (.bool (spB c))∧w=w':=by
 have hc':(c:Int) < 128:=by omega
 go_enter Tryz.func130,Tryz.ntmps130
 go_wp2
 all_goals
   go_ret
   refine ⟨ret_bool ?_,rfl⟩
   unfold spB
   simp only [beq_iff_eq,beq_eq_false_iff_ne] at *
   simp
   omega
def idB (c:Nat):Bool:=decide (33≤c∧c≤126∧c≠40∧c≠41∧c≠91∧c≠93∧c≠123∧c≠125∧c≠44)
set_option maxHeartbeats 1000000 in
theorem isIdent_ascii (c:Nat) (w:World) (hc:c < 128) (ht:PrTab w) :
   Calls Tryz.prog 93 #[.int .i64 (c:Int)] w fun e w'=>e=.returned (.bool (idB c))∧w=w':=by
 have hc':(c:Int) < 128:=by omega
 have H:=hide ht
 clear ht
 cases hsp:spB c
 all_goals
   go_enter Tryz.func93,Tryz.ntmps93
   go_wp2_with (first | (go_at_call 130;refine (isSpace_ascii _ _ hc).mono ?_;rintro e w' ⟨rfl,rfl⟩;rw [hsp]) | (go_at_call 54;refine (isPrint_ascii _ _ hc H.out).mono ?_;rintro e w' ⟨rfl,rfl⟩))
   all_goals
     go_ret
     refine ⟨ret_bool ?_,rfl⟩
     unfold spB at hsp
     unfold idB
     simp only [beq_iff_eq,beq_eq_false_iff_ne,decide_eq_true_eq,decide_eq_false_iff_not] at *
     first | (simp;omega) | (rw [← Bool.decide_and,decide_eq_decide];omega)
end
section
open Go.RowKit Go.Proofs
def Lx.go (σ:Lx) (j q:Nat):Lx:={ σ with p:=j,q:=q }
def Lx.lexed (σ:Lx) (q:Nat) (ts:Value) (k:Int) (s e:Nat) (text:ByteArray):Lx :=
 { σ with p:=e,q:=q,ts:=ts,kind:=k,tl:=(lineAt σ.T s:Nat),tc:=(colAt σ.T s:Nat),tb:=(s:Nat),el:=(lineAt σ.T e:Nat),ec:=(colAt σ.T e:Nat),eb:=(e:Nat),text:=text }
def Lexed (w:World) (σ:Lx) (k:Int) (s e:Nat) (text:ByteArray) (en:Ending) (w':World):Prop :=
 ∃ q ts,en=.returned (.tuple #[])∧(∃ a n c,ts=.slice a n c)∧LxAt w' (σ.lexed q ts k s e text)∧Kp (fun i=>i=σ.B) w w'
theorem LxAt.drewN {w:World} {σ:Lx} (h:LxAt w σ) (n:Nat):LxAt (w.drewN n) σ :=
 ⟨h.blk.drewN n,h.txt,h.ascii,h.hp,h.hn,h.hC,h.hT,h.hq,h.dat⟩
def IsSl (v:Value):Prop:=∃ a n c,v=.slice a n c
theorem eof_at (σ:Lx) (w:World) (h:LxAt w σ) (b:Bool) (hb:(((σ.T.length - σ.p:Nat):Int) == 0)=b) :
   Calls Tryz.prog 84 #[.pointer (some ⟨σ.B,0,none⟩)] w fun e w'=>e=.returned (.bool b)∧w=w':=by
 rw [← hb];exact eof_any _ _ _ _ _ h.c2
theorem peekRune_at (σ:Lx) (w:World) (h:LxAt w σ) (hlt:σ.p < σ.T.length) (c:Nat) (hc:ch σ.T σ.p=c) :
   Calls Tryz.prog 85 #[.pointer (some ⟨σ.B,0,none⟩)] w fun e w'=>e=.returned (.int .i64 (c:Nat))∧w=w':=by
 subst hc
 have:=h.ascii σ.p
 exact peekRune_some _ _ _ _ _ _ _ h.c2 (by omega) (h.cur hlt) (by omega) (by omega)
theorem readRune_c (σ:Lx) (w:World) (h:LxAt w σ) (hlt:σ.p < σ.T.length) (c:Nat) (hc:ch σ.T σ.p=c) :
   Calls Tryz.prog 86 #[.pointer (some ⟨σ.B,0,none⟩)] w fun e w'=>e=.returned (.int .i64 (c:Nat))∧LxAt w' σ.adv∧Kp (fun i=>i=σ.B) w w':=by
 subst hc
 exact readRune_at σ w h hlt
theorem peekPrefix_nosl' (σ:Lx) (w:World) (h:LxAt w σ) (hno:¬ (σ.p+1 < σ.T.length∧ch σ.T σ.p=47∧ch σ.T (σ.p+1)=47)) :
   Calls Tryz.prog 87 #[.pointer (some ⟨σ.B,0,none⟩),.string ⟨#[47,47]⟩] w fun e w'=>e=.returned (.bool false)∧LxAt w' σ∧Kp (fun i=>i=σ.B) w w' :=
 (peekPrefix_nosl σ w h hno).mono fun e w' ⟨he,n,hw⟩=>⟨he,hw ▸ h.drewN n,hw ▸ (Kp.refl _ _).drewN n⟩
theorem peekPrefix_nost' (σ:Lx) (w:World) (h:LxAt w σ) (hno:¬ (σ.p+1 < σ.T.length∧ch σ.T σ.p=47∧ch σ.T (σ.p+1)=42)) :
   Calls Tryz.prog 87 #[.pointer (some ⟨σ.B,0,none⟩),.string ⟨#[47,42]⟩] w fun e w'=>e=.returned (.bool false)∧LxAt w' σ∧Kp (fun i=>i=σ.B) w w' :=
 (peekPrefix_nost σ w h hno).mono fun e w' ⟨he,n,hw⟩=>⟨he,hw ▸ h.drewN n,hw ▸ (Kp.refl _ _).drewN n⟩
theorem peekPrefix_yes' (σ:Lx) (w:World) (h:LxAt w σ) (h1:σ.p+1 < σ.T.length) (h0:ch σ.T σ.p=47) (h3:ch σ.T (σ.p+1)=47) :
   Calls Tryz.prog 87 #[.pointer (some ⟨σ.B,0,none⟩),.string ⟨#[47,47]⟩] w fun e w'=>e=.returned (.bool true)∧LxAt w' σ∧Kp (fun i=>i=σ.B) w w' :=
 (peekPrefix_yes σ w h h1 h0 h3).mono fun e w' ⟨he,n,hw⟩=>⟨he,hw ▸ h.drewN n,hw ▸ (Kp.refl _ _).drewN n⟩
set_option maxHeartbeats 2000000 in
theorem readToken_eof (σ:Lx) (w:World) (h:LxAt w σ) (hts:IsSl σ.ts) (hws:∀ i,σ.p≤i→i < σ.T.length→ch σ.T i=32∨ch σ.T i=9) :
   Calls Tryz.prog 59 #[.pointer (some ⟨σ.B,0,none⟩)] w (Lexed w σ (-1) σ.T.length σ.T.length (mkS (seg σ.T σ.T.length σ.T.length))):=by
 have hp:=h.hp
 go_enter Tryz.func59,Tryz.ntmps59
 go_wp2
 go_loopg [2,3,4] (σ.T.length - σ.p) (fun k _ _ _ wr=>Hid (∃ j q,σ.p≤j∧j+k=σ.T.length∧LxAt wr (σ.go j q)∧Kp (fun i=>i=σ.B) w wr))
 case atStart=>exact hide ⟨σ.p,σ.q,Nat.le_refl _,by omega,h,Kp.refl _ _⟩
 case round =>
   obtain ⟨j,q,hj,hjk,hx,hkp⟩:=hrel.out
   clear hrel
   rcases Nat.eq_zero_or_pos gk with h0 | h0
   · subst h0
     obtain rfl:j=σ.T.length:=by omega
     have hb:(((σ.T.length - σ.T.length:Nat):Int) == 0)=true:=by simp
     go_wp2_with (go_at_call 84;refine (eof_at (σ.go σ.T.length q) _ hx _ hb).mono ?_;rintro e w' ⟨rfl,rfl⟩)
     refine (startToken_at (σ.go σ.T.length q) _ hx hts).mono ?_
     rintro e w1 ⟨rfl,hx1,hk1⟩
     go_wp2_with fail
     refine (eof_at _ _ hx1 true (by simp [Lx.started,Lx.go])).mono ?_
     rintro e w2 ⟨rfl,rfl⟩
     go_wp2_with fail
     refine (endToken_plain _ σ.T.length q (-1) _ hx1 rfl (Nat.le_refl _) (fun hh=>absurd hh (Nat.lt_irrefl _)) rfl rfl).mono ?_
     rintro e w2 ⟨rfl,hx2,hk2⟩
     go_wp2
     go_end0
     exact ⟨q,.slice (some ⟨σ.D,q,none⟩) (σ.T.length - σ.T.length) (σ.C - σ.T.length),rfl,⟨_,_,_,rfl⟩,hx2,hkp.trans (hk1.trans hk2)⟩
   · have hb:(((σ.T.length - j:Nat):Int) == 0)=false:=by simp;omega
     have hw:=hws j hj (by omega)
     have hl:(σ.go j q).p < (σ.go j q).T.length:=by show j < σ.T.length;omega
     have h13:(((ch σ.T j:Nat):Int) == 13)=false:=by simp;omega
     have hc32:(((ch σ.T j:Nat):Int) == 32)=true∨((((ch σ.T j:Nat):Int) == 32)=false∧(((ch σ.T j:Nat):Int) == 9)=true):=by
       rcases hw with h | h
       · left;simp;omega
       · right;constructor <;> simp <;> omega
     have HW:=hide hws
     clear hws hw
     rcases hc32 with hc | ⟨hc,hc9⟩
     all_goals
       go_wp2_with (first
         | (go_at_call 84;refine (eof_at (σ.go j q) _ hx _ hb).mono ?_;rintro e w' ⟨rfl,rfl⟩)
         | (go_at_call 85;refine (peekRune_at (σ.go j q) _ hx hl (ch σ.T j) rfl).mono ?_;rintro e w' ⟨rfl,rfl⟩)
         | (go_at_call 86;refine (readRune_c (σ.go j q) _ hx hl (ch σ.T j) rfl).mono ?_;rintro e w1 ⟨rfl,hx1,hk1⟩))
       go_roundg (gk - 1)
       case measure=>omega
       case rel=>exact hide ⟨j+1,_,by omega,by omega,hx1,hkp.trans hk1⟩
end
end Go.Proofs.YtifkpibjeamfkaaGreatFmt
