/-
  The lexer's readToken: identifiers.
  The lexer's readToken: quoted strings.
-/
import Derived.Test.YtifkpibjeamfkaaGreatFmtZ04
set_option linter.unusedVariables false
set_option linter.unusedSimpArgs false
set_option maxRecDepth 100000
namespace Go.Proofs.YtifkpibjeamfkaaGreatFmt
section
open Go.RowKit Go.Proofs
theorem PrTab.kept {w w':World} {X:Nat→Prop} (h:PrTab w) (k:Kp X w w') (hx:¬ X 0):PrTab w':=by
 intro c hc
 obtain ⟨v,hv,hr⟩:=h c hc
 have hlt:0 < w.heap.size:=World.block_lt_of_cell? w _ hv
 exact ⟨v,(World.cell?_of_block (w:=w) (a:=⟨0,c,none⟩) (k.block _ hlt hx)).trans hv,hr⟩
theorem isIdent_b (c:Nat) (w:World) (hc:c < 128) (ht:PrTab w) (b:Bool) (hb:idB c=b) :
   Calls Tryz.prog 93 #[.int .i64 (c:Int)] w fun e w'=>e=.returned (.bool b)∧w=w':=by
 subst hb;exact isIdent_ascii c w hc ht
def noCom (T:List UInt8) (i:Nat):Prop:=¬ (i+1 < T.length∧ch T i=47∧ch T (i+1)=47)∧¬ (i+1 < T.length∧ch T i=47∧ch T (i+1)=42)
def idEnd (T:List UInt8) (e:Nat):Prop:=e=T.length∨(e < T.length∧idB (ch T e)=false)∨(e+1 < T.length∧idB (ch T e)=true∧ch T e=47∧ch T (e+1)=47)
set_option maxHeartbeats 4000000 in
theorem readToken_id (σ:Lx) (w:World) (s e:Nat) (h:LxAt w σ) (hts:IsSl σ.ts) (hps:σ.p≤s) (hse:s < e) (hel:e≤σ.T.length) (hws:∀ i,σ.p≤i→i < s→ch σ.T i=32∨ch σ.T i=9)
   (hid:∀ i,s≤i→i < e→idB (ch σ.T i)=true∧noCom σ.T i) (hq1:ch σ.T s≠34) (hq2:ch σ.T s≠96) (hend:idEnd σ.T e) (hpr:PrTab w) (hB:0 < σ.B) :
   Calls Tryz.prog 59 #[.pointer (some ⟨σ.B,0,none⟩)] w (Lexed w σ (-3) s e (mkS (seg σ.T s e))):=by
 have hp:=h.hp
 have HI:=hide hid
 have HE:=hide hend
 have HP:=hide hpr
 have HQ1:=hide hq1
 have HQ2:=hide hq2
 clear hid hend hpr hq1 hq2
 have hX:¬ (fun i=>i=σ.B) 0:=by intro (e:0=σ.B);omega
 have HX:=hide hX
 clear hX
 go_enter Tryz.func59,Tryz.ntmps59
 go_wp2
 go_loopg [2,3,4] (s - σ.p) (fun k _ _ _ wr=>Hid (∃ j q,σ.p≤j∧j+k=s∧LxAt wr (σ.go j q)∧Kp (fun i=>i=σ.B) w wr))
 case atStart=>exact hide ⟨σ.p,σ.q,Nat.le_refl _,by omega,h,Kp.refl _ _⟩
 case round =>
   obtain ⟨j,q,hj,hjk,hx,hkp⟩:=hrel.out
   clear hrel
   have hb:(((σ.T.length - j:Nat):Int) == 0)=false:=by simp;omega
   have hl:(σ.go j q).p < (σ.go j q).T.length:=by show j < σ.T.length;omega
   rcases Nat.eq_zero_or_pos gk with h0 | h0
   · subst h0
     obtain rfl:j=s:=by omega
     have hsi:=HI.out j (Nat.le_refl _) hse
     have hidb:=hsi.1
     have hasc:=h.ascii j
     have n1:=HQ1.out
     have n2:=HQ2.out
     have hr:33≤ch σ.T j∧ch σ.T j≤126∧ch σ.T j≠40∧ch σ.T j≠41∧ch σ.T j≠91∧ch σ.T j≠93∧ch σ.T j≠123∧ch σ.T j≠125∧ch σ.T j≠44:=by
       unfold idB at hidb
       simpa using hidb
     have f32:(((ch σ.T j:Nat):Int) == 32)=false:=by simp;omega
     have f9:(((ch σ.T j:Nat):Int) == 9)=false:=by simp;omega
     have f13:(((ch σ.T j:Nat):Int) == 13)=false:=by simp;omega
     have f10:(((ch σ.T j:Nat):Int) == 10)=false:=by simp;omega
     have f40:(((ch σ.T j:Nat):Int) == 40)=false:=by simp;omega
     have f41:(((ch σ.T j:Nat):Int) == 41)=false:=by simp;omega
     have f91:(((ch σ.T j:Nat):Int) == 91)=false:=by simp;omega
     have f93:(((ch σ.T j:Nat):Int) == 93)=false:=by simp;omega
     have f123:(((ch σ.T j:Nat):Int) == 123)=false:=by simp;omega
     have f125:(((ch σ.T j:Nat):Int) == 125)=false:=by simp;omega
     have f44:(((ch σ.T j:Nat):Int) == 44)=false:=by simp;omega
     have f34:(((ch σ.T j:Nat):Int) == 34)=false:=by simp;omega
     have f96:(((ch σ.T j:Nat):Int) == 96)=false:=by simp;omega
     have HR:=hide hr
     have HD:=hide hidb
     clear hr n1 n2 hidb
     go_wp2_with (first
       | (go_at_call 84;refine (eof_at (σ.go j q) _ hx _ hb).mono ?_;rintro e w' ⟨rfl,rfl⟩)
       | (go_at_call 85;refine (peekRune_at (σ.go j q) _ hx hl (ch σ.T j) rfl).mono ?_;rintro e w' ⟨rfl,rfl⟩)
       | fail)
     refine (peekPrefix_nosl' (σ.go j q) _ hx hsi.2.1).mono ?_
     rintro e1 w1 ⟨rfl,hx,hk1⟩
     have hkp:=hkp.trans hk1
     clear hk1
     go_wp2_with fail
     refine (peekPrefix_nost' (σ.go j q) _ hx hsi.2.2).mono ?_
     rintro e1 w1 ⟨rfl,hx,hk1⟩
     have hkp:=hkp.trans hk1
     clear hk1
     go_wp2_with fail
     refine (startToken_at (σ.go j q) _ hx hts).mono ?_
     rintro e1 w1 ⟨rfl,hx1,hk1⟩
     have hkp:=hkp.trans hk1
     clear hk1
     go_wp2_with fail
     refine (eof_at _ _ hx1 _ hb).mono ?_
     rintro e1 w' ⟨rfl,rfl⟩
     go_wp2_with fail
     refine (peekRune_at _ _ hx1 hl (ch σ.T j) rfl).mono ?_
     rintro e1 w' ⟨rfl,rfl⟩
     go_wp2_with fail
     refine (peekRune_at _ _ hx1 hl (ch σ.T j) rfl).mono ?_
     rintro e1 w' ⟨rfl,rfl⟩
     go_wp2_with fail
     refine (isIdent_b _ _ hasc (HP.out.kept hkp HX.out) true HD.out).mono ?_
     rintro e1 w' ⟨rfl,rfl⟩
     go_wp2
     go_loopg [] (e - j) (fun k wr=>Hid (∃ i q1,j≤i∧i+k=e∧LxAt wr ((σ.go j q).started.go i q1)∧Kp (fun i=>i=σ.B) w wr))
     case atStart=>exact hide ⟨j,q,Nat.le_refl _,by omega,hx1,hkp⟩
     case round =>
       obtain ⟨i,q1,hi,hik,hx2,hkp2⟩:=hrel.out
       clear hrel
       have hasc2:=h.ascii i
       rcases Nat.eq_zero_or_pos gk with h00 | h00
       · subst h00
         obtain rfl:i=e:=by omega
         have fin:∀ w3,LxAt w3 ((σ.go j q).started.go i q1)→Kp (fun i=>i=σ.B) w w3→Calls Tryz.prog 91 #[.pointer (some ⟨σ.B,0,none⟩),.int .i64 (-3)] w3 (Lexed w σ (-3) j i (mkS (seg σ.T j i))):=fun w3 hx3 hk3 =>
           (endToken_plain _ j q (-3) _ hx3 rfl hi (fun _=>hx.hq (by have:=h.hn;show j < σ.C;omega)) rfl rfl).mono fun e w4 ⟨he,hx4,hk4⟩ =>
             ⟨_,.slice (some ⟨σ.D,q,none⟩) (σ.T.length - j) (σ.C - j),he,⟨_,_,_,rfl⟩,hx4,hk3.trans hk4⟩
         have FIN:=hide fin
         clear fin
         rcases HE.out with h1 | ⟨h1,h2⟩ | ⟨h1,h2,h3,h4⟩
         · have hc2:=hx2.c2
           simp only [Lx.go,Lx.started] at hc2
           rw [show σ.T.length - i=0 from by omega] at hc2
           clear h1
           have HC2:=hide hc2
           clear hc2
           go_wp2_with fail
           refine (peekRune_none _ _ _ _ HC2.out).mono ?_
           rintro e1 w' ⟨rfl,rfl⟩
           go_wp2_with fail
           refine (isIdent_b 0 _ (by omega) (HP.out.kept hkp2 HX.out) false rfl).mono ?_
           rintro e1 w' ⟨rfl,rfl⟩
           go_wp2_with fail
           refine (FIN.out _ hx2 hkp2).mono ?_
           rintro e1 w3 ⟨q5,ts5,rfl,hr5⟩
           have HR5:=hide hr5
           clear hr5
           go_wp2
           go_end0
           exact ⟨q5,ts5,rfl,HR5.out⟩
         · have hl2:((σ.go j q).started.go i q1).p < ((σ.go j q).started.go i q1).T.length:=h1
           go_wp2_with fail
           refine (peekRune_at _ _ hx2 hl2 (ch σ.T i) rfl).mono ?_
           rintro e1 w' ⟨rfl,rfl⟩
           go_wp2_with fail
           refine (isIdent_b _ _ hasc2 (HP.out.kept hkp2 HX.out) false h2).mono ?_
           rintro e1 w' ⟨rfl,rfl⟩
           go_wp2_with fail
           refine (FIN.out _ hx2 hkp2).mono ?_
           rintro e1 w3 ⟨q5,ts5,rfl,hr5⟩
           have HR5:=hide hr5
           clear hr5
           go_wp2
           go_end0
           exact ⟨q5,ts5,rfl,HR5.out⟩
         · have hl2:((σ.go j q).started.go i q1).p < ((σ.go j q).started.go i q1).T.length:=by show i < σ.T.length;omega
           have H1:=hide (show ((σ.go j q).started.go i q1).p+1 < ((σ.go j q).started.go i q1).T.length from h1)
           have H2:=hide h2
           have H3:=hide h3
           have H4:=hide h4
           clear h1 h2 h3 h4
           go_wp2_with fail
           refine (peekRune_at _ _ hx2 hl2 (ch σ.T i) rfl).mono ?_
           rintro e1 w' ⟨rfl,rfl⟩
           go_wp2_with fail
           refine (isIdent_b _ _ hasc2 (HP.out.kept hkp2 HX.out) true H2.out).mono ?_
           rintro e1 w' ⟨rfl,rfl⟩
           go_wp2_with fail
           refine (peekPrefix_yes' _ _ hx2 H1.out H3.out H4.out).mono ?_
           rintro e1 w3 ⟨rfl,hx3,hk3⟩
           have hkp3:=hkp2.trans hk3
           clear hk3
           go_wp2_with fail
           refine (FIN.out _ hx3 hkp3).mono ?_
           rintro e1 w3 ⟨q5,ts5,rfl,hr5⟩
           have HR5:=hide hr5
           clear hr5
           go_wp2
           go_end0
           exact ⟨q5,ts5,rfl,HR5.out⟩
       · have hii:=HI.out i hi (by omega)
         have hl2:((σ.go j q).started.go i q1).p < ((σ.go j q).started.go i q1).T.length:=by show i < σ.T.length;omega
         go_wp2_with fail
         refine (peekRune_at _ _ hx2 hl2 (ch σ.T i) rfl).mono ?_
         rintro e1 w' ⟨rfl,rfl⟩
         go_wp2_with fail
         refine (isIdent_b _ _ hasc2 (HP.out.kept hkp2 HX.out) true hii.1).mono ?_
         rintro e1 w' ⟨rfl,rfl⟩
         go_wp2_with fail
         refine (peekPrefix_nosl' _ _ hx2 hii.2.1).mono ?_
         rintro e1 w3 ⟨rfl,hx3,hk3⟩
         have hkp3:=hkp2.trans hk3
         clear hk3
         go_wp2_with fail
         refine (peekPrefix_nost' _ _ hx3 hii.2.2).mono ?_
         rintro e1 w4 ⟨rfl,hx4,hk4⟩
         have hkp4:=hkp3.trans hk4
         clear hk4
         go_wp2_with fail
         refine (readRune_c _ _ hx4 hl2 (ch σ.T i) rfl).mono ?_
         rintro e1 w5 ⟨rfl,hx5,hk5⟩
         go_wp2
         go_roundg (gk - 1)
         case measure=>omega
         case rel=>exact hide ⟨i+1,_,by omega,by omega,hx5,hkp4.trans hk5⟩
   · have hw:=hws j hj (by omega)
     have h13:(((ch σ.T j:Nat):Int) == 13)=false:=by simp;omega
     have hc32:(((ch σ.T j:Nat):Int) == 32)=true∨((((ch σ.T j:Nat):Int) == 32)=false∧(((ch σ.T j:Nat):Int) == 9)=true):=by
       rcases hw with h | h
       · left;simp;omega
       · right;constructor <;> simp <;> omega
     have HW:=hide hws
     clear hws hw
     rcases hc32 with hc | ⟨hc,hc9⟩
     all_goals
       go_wp2_with (first
         | (go_at_call 84;refine (eof_at (σ.go j q) _ hx _ hb).mono ?_;rintro e w' ⟨rfl,rfl⟩)
         | (go_at_call 85;refine (peekRune_at (σ.go j q) _ hx hl (ch σ.T j) rfl).mono ?_;rintro e w' ⟨rfl,rfl⟩)
         | (go_at_call 86;refine (readRune_c (σ.go j q) _ hx hl (ch σ.T j) rfl).mono ?_;rintro e w1 ⟨rfl,hx1,hk1⟩))
       go_roundg (gk - 1)
       case measure=>omega
       case rel=>exact hide ⟨j+1,_,by omega,by omega,hx1,hkp.trans hk1⟩
end
section
open Go.RowKit Go.Proofs
inductive StrB (T:List UInt8):Nat→Nat→Prop
 | fin (i:Nat) (h:i < T.length) (hc:ch T i=34):StrB T i (i+1)
 | esc (i e:Nat) (h:i+1 < T.length) (hc:ch T i=92) (r:StrB T (i+2) e):StrB T i e
 | chr (i e:Nat) (h:i < T.length) (h1:ch T i≠34) (h2:ch T i≠92) (h3:ch T i≠10) (r:StrB T (i+1) e):StrB T i e
theorem StrB.lt {T:List UInt8} {i e:Nat} (h:StrB T i e):i < e∧e≤T.length:=by
 induction h with
 | fin i h _=>omega
 | esc i e h _ _ ih=>omega
 | chr i e h _ _ _ _ ih=>omega
set_option maxHeartbeats 4000000 in
theorem readToken_str (σ:Lx) (w:World) (s e:Nat) (h:LxAt w σ) (hts:IsSl σ.ts) (hps:σ.p≤s) (hsl:s < σ.T.length) (hws:∀ i,σ.p≤i→i < s→ch σ.T i=32∨ch σ.T i=9)
   (hs:ch σ.T s=34) (hstr:StrB σ.T (s+1) e) :
   Calls Tryz.prog 59 #[.pointer (some ⟨σ.B,0,none⟩)] w (Lexed w σ (-4) s e (mkS (seg σ.T s e))):=by
 have hp:=h.hp
 have HS:=hide hs
 have HB:=hide hstr
 clear hs hstr
 go_enter Tryz.func59,Tryz.ntmps59
 go_wp2
 go_loopg [2,3,4] (s - σ.p) (fun k _ _ _ wr=>Hid (∃ j q,σ.p≤j∧j+k=s∧LxAt wr (σ.go j q)∧Kp (fun i=>i=σ.B) w wr))
 case atStart=>exact hide ⟨σ.p,σ.q,Nat.le_refl _,by omega,h,Kp.refl _ _⟩
 case round =>
   obtain ⟨j,q,hj,hjk,hx,hkp⟩:=hrel.out
   clear hrel
   have hb:(((σ.T.length - j:Nat):Int) == 0)=false:=by simp;omega
   have hl:(σ.go j q).p < (σ.go j q).T.length:=by show j < σ.T.length;omega
   rcases Nat.eq_zero_or_pos gk with h0 | h0
   · subst h0
     obtain rfl:j=s:=by omega
     have hno1:¬ ((σ.go j q).p+1 < (σ.go j q).T.length∧ch (σ.go j q).T (σ.go j q).p=47∧ch (σ.go j q).T ((σ.go j q).p+1)=47):=by rintro ⟨_,h2,_⟩;have:=HS.out;simp only [Lx.go] at h2;omega
     have hno2:¬ ((σ.go j q).p+1 < (σ.go j q).T.length∧ch (σ.go j q).T (σ.go j q).p=47∧ch (σ.go j q).T ((σ.go j q).p+1)=42):=by rintro ⟨_,h2,_⟩;have:=HS.out;simp only [Lx.go] at h2;omega
     go_wp2_with (first
       | (go_at_call 84;refine (eof_at (σ.go j q) _ hx _ hb).mono ?_;rintro e w' ⟨rfl,rfl⟩)
       | (go_at_call 85;refine (peekRune_at (σ.go j q) _ hx hl 34 HS.out).mono ?_;rintro e w' ⟨rfl,rfl⟩)
       | fail)
     refine (peekPrefix_nosl' (σ.go j q) _ hx hno1).mono ?_
     rintro e1 w1 ⟨rfl,hx,hk1⟩
     have hkp:=hkp.trans hk1
     clear hk1
     go_wp2_with fail
     refine (peekPrefix_nost' (σ.go j q) _ hx hno2).mono ?_
     rintro e1 w1 ⟨rfl,hx,hk1⟩
     have hkp:=hkp.trans hk1
     clear hk1
     go_wp2_with fail
     refine (startToken_at (σ.go j q) _ hx hts).mono ?_
     rintro e1 w1 ⟨rfl,hx1,hk1⟩
     have hkp:=hkp.trans hk1
     clear hk1
     go_wp2_with fail
     refine (eof_at _ _ hx1 _ hb).mono ?_
     rintro e1 w' ⟨rfl,rfl⟩
     go_wp2_with fail
     refine (peekRune_at _ _ hx1 hl 34 HS.out).mono ?_
     rintro e1 w' ⟨rfl,rfl⟩
     go_wp2_with fail
     refine (readRune_c _ _ hx1 hl 34 HS.out).mono ?_
     rintro e1 w2 ⟨rfl,hx2,hk2⟩
     have hkp:=hkp.trans hk2
     clear hk2
     have hqj:q=j:=hx.hq (by have:=h.hn;show j < σ.C;omega)
     have HQJ:=hide hqj
     clear hqj
     go_wp2_with fail
     go_loopg [7] (e - (j+1)) (fun k _ wr=>Hid (∃ i q1,i+k=e∧j < i∧StrB σ.T i e∧LxAt wr ((σ.go j q).started.go i q1)∧Kp (fun i=>i=σ.B) w wr))
     case atStart=>exact hide ⟨j+1,_,by have:=HB.out.lt;omega,by omega,HB.out,hx2,hkp⟩
     case round =>
       obtain ⟨i,q1,hik,hji,hsb,hx3,hkp3⟩:=hrel.out
       clear hrel
       have hbl:=hsb.lt
       have HIK:=hide hik
       clear hik
       have hb2:(((σ.T.length - i:Nat):Int) == 0)=false:=by simp;omega
       have hl2:((σ.go j q).started.go i q1).p < ((σ.go j q).started.go i q1).T.length:=by show i < σ.T.length;omega
       cases hsb with
       | fin i h5 hc =>
         have HC:=hide hc
         clear hc
         go_wp2_with fail
         refine (eof_at _ _ hx3 _ hb2).mono ?_
         rintro e1 w' ⟨rfl,rfl⟩
         go_wp2_with fail
         refine (peekRune_at _ _ hx3 hl2 34 HC.out).mono ?_
         rintro e1 w' ⟨rfl,rfl⟩
         go_wp2_with fail
         refine (readRune_c _ _ hx3 hl2 34 HC.out).mono ?_
         rintro e1 w4 ⟨rfl,hx4,hk4⟩
         have hkp4:=hkp3.trans hk4
         clear hk4
         go_wp2_with fail
         refine (endToken_plain _ j q (-4) _ hx4 rfl (by show j≤i+1;omega) (fun _=>HQJ.out) rfl rfl).mono ?_
         rintro e1 w5 ⟨rfl,hx5,hk5⟩
         go_wp2
         go_end0
         exact ⟨_,.slice (some ⟨σ.D,q,none⟩) (σ.T.length - j) (σ.C - j),rfl,⟨_,_,_,rfl⟩,hx5,hkp4.trans hk5⟩
       | esc i e h5 hc r =>
         have HC:=hide hc
         have HR:=hide r
         clear hc r
         have hb3:(((σ.T.length - (i+1):Nat):Int) == 0)=false:=by simp;omega
         go_wp2_with fail
         refine (eof_at _ _ hx3 _ hb2).mono ?_
         rintro e1 w' ⟨rfl,rfl⟩
         go_wp2_with fail
         refine (peekRune_at _ _ hx3 hl2 92 HC.out).mono ?_
         rintro e1 w' ⟨rfl,rfl⟩
         go_wp2_with fail
         refine (readRune_c _ _ hx3 hl2 92 HC.out).mono ?_
         rintro e1 w4 ⟨rfl,hx4,hk4⟩
         have hkp4:=hkp3.trans hk4
         clear hk4
         go_wp2_with fail
         refine (eof_at _ _ hx4 _ hb3).mono ?_
         rintro e1 w' ⟨rfl,rfl⟩
         go_wp2_with fail
         refine (readRune_c _ _ hx4 h5 (ch σ.T (i+1)) rfl).mono ?_
         rintro e1 w5 ⟨rfl,hx5,hk5⟩
         have hkp5:=hkp4.trans hk5
         clear hk5
         go_wp2
         go_roundg (gk - 2)
         case measure=>have:=HIK.out;omega
         case rel=>exact hide ⟨i+2,_,by have:=HIK.out;have:=HR.out.lt;omega,by omega,HR.out,hx5,hkp5⟩
       | chr i e h5 h6 h7 h8 r =>
         have HR:=hide r
         clear r
         have f34:(((ch σ.T i:Nat):Int) == 34)=false:=by simp;omega
         have f92:(((ch σ.T i:Nat):Int) == 92)=false:=by simp;omega
         have f10:(((ch σ.T i:Nat):Int) == 10)=false:=by simp;omega
         clear h6 h7 h8
         go_wp2_with fail
         refine (eof_at _ _ hx3 _ hb2).mono ?_
         rintro e1 w' ⟨rfl,rfl⟩
         go_wp2_with fail
         refine (peekRune_at _ _ hx3 hl2 (ch σ.T i) rfl).mono ?_
         rintro e1 w' ⟨rfl,rfl⟩
         go_wp2_with fail
         refine (readRune_c _ _ hx3 hl2 (ch σ.T i) rfl).mono ?_
         rintro e1 w4 ⟨rfl,hx4,hk4⟩
         have hkp4:=hkp3.trans hk4
         clear hk4
         go_wp2
         go_roundg (gk - 1)
         case measure=>have:=HIK.out;omega
         case rel=>exact hide ⟨i+1,_,by have:=HIK.out;have:=HR.out.lt;omega,by omega,HR.out,hx4,hkp4⟩
   · have hw:=hws j hj (by omega)
     have h13:(((ch σ.T j:Nat):Int) == 13)=false:=by simp;omega
     have hc32:(((ch σ.T j:Nat):Int) == 32)=true∨((((ch σ.T j:Nat):Int) == 32)=false∧(((ch σ.T j:Nat):Int) == 9)=true):=by
       rcases hw with h | h
       · left;simp;omega
       · right;constructor <;> simp <;> omega
     have HW:=hide hws
     clear hws hw
     rcases hc32 with hc | ⟨hc,hc9⟩
     all_goals
       go_wp2_with (first
         | (go_at_call 84;refine (eof_at (σ.go j q) _ hx _ hb).mono ?_;rintro e w' ⟨rfl,rfl⟩)
         | (go_at_call 85;refine (peekRune_at (σ.go j q) _ hx hl (ch σ.T j) rfl).mono ?_;rintro e w' ⟨rfl,rfl⟩)
         | (go_at_call 86;refine (readRune_c (σ.go j q) _ hx hl (ch σ.T j) rfl).mono ?_;rintro e w1 ⟨rfl,hx1,hk1⟩))
       go_roundg (gk - 1)
       case measure=>omega
       case rel=>exact hide ⟨j+1,_,by omega,by omega,hx1,hkp.trans hk1⟩
end
end Go.Proofs.YtifkpibjeamfkaaGreatFmt
