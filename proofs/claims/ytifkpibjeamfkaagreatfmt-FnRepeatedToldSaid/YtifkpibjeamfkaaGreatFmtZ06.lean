/-
  The lexer's readToken: newlines and punctuation.
-/
import Derived.Test.YtifkpibjeamfkaaGreatFmtZ04
set_option linter.unusedVariables false
set_option linter.unusedSimpArgs false
set_option maxRecDepth 100000
namespace Go.Proofs.YtifkpibjeamfkaaGreatFmt
section
open Go.RowKit Go.Proofs
set_option maxHeartbeats 2000000 in
theorem readToken_p10 (σ:Lx) (w:World) (s:Nat) (h:LxAt w σ) (hts:IsSl σ.ts) (hps:σ.p≤s) (hsl:s < σ.T.length) (hws:∀ i,σ.p≤i→i < s→ch σ.T i=32∨ch σ.T i=9) (hs:ch σ.T s=10) :
   Calls Tryz.prog 59 #[.pointer (some ⟨σ.B,0,none⟩)] w (Lexed w σ 10 s (s+1) (mkS (seg σ.T s (s+1)))):=by
 have hp:=h.hp
 have HS:=hide hs
 clear hs
 go_enter Tryz.func59,Tryz.ntmps59
 go_wp2
 go_loopg [2,3,4] (s - σ.p) (fun k _ _ _ wr=>Hid (∃ j q,σ.p≤j∧j+k=s∧LxAt wr (σ.go j q)∧Kp (fun i=>i=σ.B) w wr))
 case atStart=>exact hide ⟨σ.p,σ.q,Nat.le_refl _,by omega,h,Kp.refl _ _⟩
 case round =>
   obtain ⟨j,q,hj,hjk,hx,hkp⟩:=hrel.out
   clear hrel
   have hb:(((σ.T.length - j:Nat):Int) == 0)=false:=by simp;omega
   have hl:(σ.go j q).p < (σ.go j q).T.length:=by show j < σ.T.length;omega
   rcases Nat.eq_zero_or_pos gk with h0 | h0
   · subst h0
     obtain rfl:j=s:=by omega
     have hno1:¬ ((σ.go j q).p+1 < (σ.go j q).T.length∧ch (σ.go j q).T (σ.go j q).p=47∧ch (σ.go j q).T ((σ.go j q).p+1)=47):=by rintro ⟨_,h2,_⟩;have:=HS.out;simp only [Lx.go] at h2;omega
     have hno2:¬ ((σ.go j q).p+1 < (σ.go j q).T.length∧ch (σ.go j q).T (σ.go j q).p=47∧ch (σ.go j q).T ((σ.go j q).p+1)=42):=by rintro ⟨_,h2,_⟩;have:=HS.out;simp only [Lx.go] at h2;omega
     go_wp2_with (first
       | (go_at_call 84;refine (eof_at (σ.go j q) _ hx _ hb).mono ?_;rintro e w' ⟨rfl,rfl⟩)
       | (go_at_call 85;refine (peekRune_at (σ.go j q) _ hx hl 10 HS.out).mono ?_;rintro e w' ⟨rfl,rfl⟩)
       | fail)
     refine (peekPrefix_nosl' (σ.go j q) _ hx hno1).mono ?_
     rintro e w1 ⟨rfl,hx,hk1⟩
     have hkp:=hkp.trans hk1
     clear hk1
     go_wp2_with fail
     refine (peekPrefix_nost' (σ.go j q) _ hx hno2).mono ?_
     rintro e w1 ⟨rfl,hx,hk1⟩
     have hkp:=hkp.trans hk1
     clear hk1
     go_wp2_with fail
     refine (startToken_at (σ.go j q) _ hx hts).mono ?_
     rintro e w1 ⟨rfl,hx1,hk1⟩
     go_wp2_with fail
     refine (eof_at _ _ hx1 _ hb).mono ?_
     rintro e w' ⟨rfl,rfl⟩
     go_wp2_with fail
     refine (peekRune_at _ _ hx1 hl 10 HS.out).mono ?_
     rintro e w' ⟨rfl,rfl⟩
     go_wp2_with fail
     refine (readRune_c _ _ hx1 hl 10 HS.out).mono ?_
     rintro e w2 ⟨rfl,hx2,hk2⟩
     go_wp2_with fail
     refine (endToken_plain _ j q 10 _ hx2 rfl (Nat.le_succ _) (fun _=>hx.hq (by have:=h.hn;show j < σ.C;omega)) rfl rfl).mono ?_
     rintro e w3 ⟨rfl,hx3,hk3⟩
     go_wp2
     go_end0
     exact ⟨_,.slice (some ⟨σ.D,q,none⟩) (σ.T.length - j) (σ.C - j),rfl,⟨_,_,_,rfl⟩,hx3,hkp.trans (hk1.trans (hk2.trans hk3))⟩
   · have hw:=hws j hj (by omega)
     have h13:(((ch σ.T j:Nat):Int) == 13)=false:=by simp;omega
     have hc32:(((ch σ.T j:Nat):Int) == 32)=true∨((((ch σ.T j:Nat):Int) == 32)=false∧(((ch σ.T j:Nat):Int) == 9)=true):=by
       rcases hw with h | h
       · left;simp;omega
       · right;constructor <;> simp <;> omega
     have HW:=hide hws
     clear hws hw
     rcases hc32 with hc | ⟨hc,hc9⟩
     all_goals
       go_wp2_with (first
         | (go_at_call 84;refine (eof_at (σ.go j q) _ hx _ hb).mono ?_;rintro e w' ⟨rfl,rfl⟩)
         | (go_at_call 85;refine (peekRune_at (σ.go j q) _ hx hl (ch σ.T j) rfl).mono ?_;rintro e w' ⟨rfl,rfl⟩)
         | (go_at_call 86;refine (readRune_c (σ.go j q) _ hx hl (ch σ.T j) rfl).mono ?_;rintro e w1 ⟨rfl,hx1,hk1⟩))
       go_roundg (gk - 1)
       case measure=>omega
       case rel=>exact hide ⟨j+1,_,by omega,by omega,hx1,hkp.trans hk1⟩
set_option maxHeartbeats 2000000 in
theorem readToken_p40 (σ:Lx) (w:World) (s:Nat) (h:LxAt w σ) (hts:IsSl σ.ts) (hps:σ.p≤s) (hsl:s < σ.T.length) (hws:∀ i,σ.p≤i→i < s→ch σ.T i=32∨ch σ.T i=9) (hs:ch σ.T s=40) :
   Calls Tryz.prog 59 #[.pointer (some ⟨σ.B,0,none⟩)] w (Lexed w σ 40 s (s+1) (mkS (seg σ.T s (s+1)))):=by
 have hp:=h.hp
 have HS:=hide hs
 clear hs
 go_enter Tryz.func59,Tryz.ntmps59
 go_wp2
 go_loopg [2,3,4] (s - σ.p) (fun k _ _ _ wr=>Hid (∃ j q,σ.p≤j∧j+k=s∧LxAt wr (σ.go j q)∧Kp (fun i=>i=σ.B) w wr))
 case atStart=>exact hide ⟨σ.p,σ.q,Nat.le_refl _,by omega,h,Kp.refl _ _⟩
 case round =>
   obtain ⟨j,q,hj,hjk,hx,hkp⟩:=hrel.out
   clear hrel
   have hb:(((σ.T.length - j:Nat):Int) == 0)=false:=by simp;omega
   have hl:(σ.go j q).p < (σ.go j q).T.length:=by show j < σ.T.length;omega
   rcases Nat.eq_zero_or_pos gk with h0 | h0
   · subst h0
     obtain rfl:j=s:=by omega
     have hno1:¬ ((σ.go j q).p+1 < (σ.go j q).T.length∧ch (σ.go j q).T (σ.go j q).p=47∧ch (σ.go j q).T ((σ.go j q).p+1)=47):=by rintro ⟨_,h2,_⟩;have:=HS.out;simp only [Lx.go] at h2;omega
     have hno2:¬ ((σ.go j q).p+1 < (σ.go j q).T.length∧ch (σ.go j q).T (σ.go j q).p=47∧ch (σ.go j q).T ((σ.go j q).p+1)=42):=by rintro ⟨_,h2,_⟩;have:=HS.out;simp only [Lx.go] at h2;omega
     go_wp2_with (first
       | (go_at_call 84;refine (eof_at (σ.go j q) _ hx _ hb).mono ?_;rintro e w' ⟨rfl,rfl⟩)
       | (go_at_call 85;refine (peekRune_at (σ.go j q) _ hx hl 40 HS.out).mono ?_;rintro e w' ⟨rfl,rfl⟩)
       | fail)
     refine (peekPrefix_nosl' (σ.go j q) _ hx hno1).mono ?_
     rintro e w1 ⟨rfl,hx,hk1⟩
     have hkp:=hkp.trans hk1
     clear hk1
     go_wp2_with fail
     refine (peekPrefix_nost' (σ.go j q) _ hx hno2).mono ?_
     rintro e w1 ⟨rfl,hx,hk1⟩
     have hkp:=hkp.trans hk1
     clear hk1
     go_wp2_with fail
     refine (startToken_at (σ.go j q) _ hx hts).mono ?_
     rintro e w1 ⟨rfl,hx1,hk1⟩
     go_wp2_with fail
     refine (eof_at _ _ hx1 _ hb).mono ?_
     rintro e w' ⟨rfl,rfl⟩
     go_wp2_with fail
     refine (peekRune_at _ _ hx1 hl 40 HS.out).mono ?_
     rintro e w' ⟨rfl,rfl⟩
     go_wp2_with fail
     refine (readRune_c _ _ hx1 hl 40 HS.out).mono ?_
     rintro e w2 ⟨rfl,hx2,hk2⟩
     go_wp2_with fail
     refine (endToken_plain _ j q 40 _ hx2 rfl (Nat.le_succ _) (fun _=>hx.hq (by have:=h.hn;show j < σ.C;omega)) rfl rfl).mono ?_
     rintro e w3 ⟨rfl,hx3,hk3⟩
     go_wp2
     go_end0
     exact ⟨_,.slice (some ⟨σ.D,q,none⟩) (σ.T.length - j) (σ.C - j),rfl,⟨_,_,_,rfl⟩,hx3,hkp.trans (hk1.trans (hk2.trans hk3))⟩
   · have hw:=hws j hj (by omega)
     have h13:(((ch σ.T j:Nat):Int) == 13)=false:=by simp;omega
     have hc32:(((ch σ.T j:Nat):Int) == 32)=true∨((((ch σ.T j:Nat):Int) == 32)=false∧(((ch σ.T j:Nat):Int) == 9)=true):=by
       rcases hw with h | h
       · left;simp;omega
       · right;constructor <;> simp <;> omega
     have HW:=hide hws
     clear hws hw
     rcases hc32 with hc | ⟨hc,hc9⟩
     all_goals
       go_wp2_with (first
         | (go_at_call 84;refine (eof_at (σ.go j q) _ hx _ hb).mono ?_;rintro e w' ⟨rfl,rfl⟩)
         | (go_at_call 85;refine (peekRune_at (σ.go j q) _ hx hl (ch σ.T j) rfl).mono ?_;rintro e w' ⟨rfl,rfl⟩)
         | (go_at_call 86;refine (readRune_c (σ.go j q) _ hx hl (ch σ.T j) rfl).mono ?_;rintro e w1 ⟨rfl,hx1,hk1⟩))
       go_roundg (gk - 1)
       case measure=>omega
       case rel=>exact hide ⟨j+1,_,by omega,by omega,hx1,hkp.trans hk1⟩
set_option maxHeartbeats 2000000 in
theorem readToken_p41 (σ:Lx) (w:World) (s:Nat) (h:LxAt w σ) (hts:IsSl σ.ts) (hps:σ.p≤s) (hsl:s < σ.T.length) (hws:∀ i,σ.p≤i→i < s→ch σ.T i=32∨ch σ.T i=9) (hs:ch σ.T s=41) :
   Calls Tryz.prog 59 #[.pointer (some ⟨σ.B,0,none⟩)] w (Lexed w σ 41 s (s+1) (mkS (seg σ.T s (s+1)))):=by
 have hp:=h.hp
 have HS:=hide hs
 clear hs
 go_enter Tryz.func59,Tryz.ntmps59
 go_wp2
 go_loopg [2,3,4] (s - σ.p) (fun k _ _ _ wr=>Hid (∃ j q,σ.p≤j∧j+k=s∧LxAt wr (σ.go j q)∧Kp (fun i=>i=σ.B) w wr))
 case atStart=>exact hide ⟨σ.p,σ.q,Nat.le_refl _,by omega,h,Kp.refl _ _⟩
 case round =>
   obtain ⟨j,q,hj,hjk,hx,hkp⟩:=hrel.out
   clear hrel
   have hb:(((σ.T.length - j:Nat):Int) == 0)=false:=by simp;omega
   have hl:(σ.go j q).p < (σ.go j q).T.length:=by show j < σ.T.length;omega
   rcases Nat.eq_zero_or_pos gk with h0 | h0
   · subst h0
     obtain rfl:j=s:=by omega
     have hno1:¬ ((σ.go j q).p+1 < (σ.go j q).T.length∧ch (σ.go j q).T (σ.go j q).p=47∧ch (σ.go j q).T ((σ.go j q).p+1)=47):=by rintro ⟨_,h2,_⟩;have:=HS.out;simp only [Lx.go] at h2;omega
     have hno2:¬ ((σ.go j q).p+1 < (σ.go j q).T.length∧ch (σ.go j q).T (σ.go j q).p=47∧ch (σ.go j q).T ((σ.go j q).p+1)=42):=by rintro ⟨_,h2,_⟩;have:=HS.out;simp only [Lx.go] at h2;omega
     go_wp2_with (first
       | (go_at_call 84;refine (eof_at (σ.go j q) _ hx _ hb).mono ?_;rintro e w' ⟨rfl,rfl⟩)
       | (go_at_call 85;refine (peekRune_at (σ.go j q) _ hx hl 41 HS.out).mono ?_;rintro e w' ⟨rfl,rfl⟩)
       | fail)
     refine (peekPrefix_nosl' (σ.go j q) _ hx hno1).mono ?_
     rintro e w1 ⟨rfl,hx,hk1⟩
     have hkp:=hkp.trans hk1
     clear hk1
     go_wp2_with fail
     refine (peekPrefix_nost' (σ.go j q) _ hx hno2).mono ?_
     rintro e w1 ⟨rfl,hx,hk1⟩
     have hkp:=hkp.trans hk1
     clear hk1
     go_wp2_with fail
     refine (startToken_at (σ.go j q) _ hx hts).mono ?_
     rintro e w1 ⟨rfl,hx1,hk1⟩
     go_wp2_with fail
     refine (eof_at _ _ hx1 _ hb).mono ?_
     rintro e w' ⟨rfl,rfl⟩
     go_wp2_with fail
     refine (peekRune_at _ _ hx1 hl 41 HS.out).mono ?_
     rintro e w' ⟨rfl,rfl⟩
     go_wp2_with fail
     refine (readRune_c _ _ hx1 hl 41 HS.out).mono ?_
     rintro e w2 ⟨rfl,hx2,hk2⟩
     go_wp2_with fail
     refine (endToken_plain _ j q 41 _ hx2 rfl (Nat.le_succ _) (fun _=>hx.hq (by have:=h.hn;show j < σ.C;omega)) rfl rfl).mono ?_
     rintro e w3 ⟨rfl,hx3,hk3⟩
     go_wp2
     go_end0
     exact ⟨_,.slice (some ⟨σ.D,q,none⟩) (σ.T.length - j) (σ.C - j),rfl,⟨_,_,_,rfl⟩,hx3,hkp.trans (hk1.trans (hk2.trans hk3))⟩
   · have hw:=hws j hj (by omega)
     have h13:(((ch σ.T j:Nat):Int) == 13)=false:=by simp;omega
     have hc32:(((ch σ.T j:Nat):Int) == 32)=true∨((((ch σ.T j:Nat):Int) == 32)=false∧(((ch σ.T j:Nat):Int) == 9)=true):=by
       rcases hw with h | h
       · left;simp;omega
       · right;constructor <;> simp <;> omega
     have HW:=hide hws
     clear hws hw
     rcases hc32 with hc | ⟨hc,hc9⟩
     all_goals
       go_wp2_with (first
         | (go_at_call 84;refine (eof_at (σ.go j q) _ hx _ hb).mono ?_;rintro e w' ⟨rfl,rfl⟩)
         | (go_at_call 85;refine (peekRune_at (σ.go j q) _ hx hl (ch σ.T j) rfl).mono ?_;rintro e w' ⟨rfl,rfl⟩)
         | (go_at_call 86;refine (readRune_c (σ.go j q) _ hx hl (ch σ.T j) rfl).mono ?_;rintro e w1 ⟨rfl,hx1,hk1⟩))
       go_roundg (gk - 1)
       case measure=>omega
       case rel=>exact hide ⟨j+1,_,by omega,by omega,hx1,hkp.trans hk1⟩
set_option maxHeartbeats 2000000 in
theorem readToken_p91 (σ:Lx) (w:World) (s:Nat) (h:LxAt w σ) (hts:IsSl σ.ts) (hps:σ.p≤s) (hsl:s < σ.T.length) (hws:∀ i,σ.p≤i→i < s→ch σ.T i=32∨ch σ.T i=9) (hs:ch σ.T s=91) :
   Calls Tryz.prog 59 #[.pointer (some ⟨σ.B,0,none⟩)] w (Lexed w σ 91 s (s+1) (mkS (seg σ.T s (s+1)))):=by
 have hp:=h.hp
 have HS:=hide hs
 clear hs
 go_enter Tryz.func59,Tryz.ntmps59
 go_wp2
 go_loopg [2,3,4] (s - σ.p) (fun k _ _ _ wr=>Hid (∃ j q,σ.p≤j∧j+k=s∧LxAt wr (σ.go j q)∧Kp (fun i=>i=σ.B) w wr))
 case atStart=>exact hide ⟨σ.p,σ.q,Nat.le_refl _,by omega,h,Kp.refl _ _⟩
 case round =>
   obtain ⟨j,q,hj,hjk,hx,hkp⟩:=hrel.out
   clear hrel
   have hb:(((σ.T.length - j:Nat):Int) == 0)=false:=by simp;omega
   have hl:(σ.go j q).p < (σ.go j q).T.length:=by show j < σ.T.length;omega
   rcases Nat.eq_zero_or_pos gk with h0 | h0
   · subst h0
     obtain rfl:j=s:=by omega
     have hno1:¬ ((σ.go j q).p+1 < (σ.go j q).T.length∧ch (σ.go j q).T (σ.go j q).p=47∧ch (σ.go j q).T ((σ.go j q).p+1)=47):=by rintro ⟨_,h2,_⟩;have:=HS.out;simp only [Lx.go] at h2;omega
     have hno2:¬ ((σ.go j q).p+1 < (σ.go j q).T.length∧ch (σ.go j q).T (σ.go j q).p=47∧ch (σ.go j q).T ((σ.go j q).p+1)=42):=by rintro ⟨_,h2,_⟩;have:=HS.out;simp only [Lx.go] at h2;omega
     go_wp2_with (first
       | (go_at_call 84;refine (eof_at (σ.go j q) _ hx _ hb).mono ?_;rintro e w' ⟨rfl,rfl⟩)
       | (go_at_call 85;refine (peekRune_at (σ.go j q) _ hx hl 91 HS.out).mono ?_;rintro e w' ⟨rfl,rfl⟩)
       | fail)
     refine (peekPrefix_nosl' (σ.go j q) _ hx hno1).mono ?_
     rintro e w1 ⟨rfl,hx,hk1⟩
     have hkp:=hkp.trans hk1
     clear hk1
     go_wp2_with fail
     refine (peekPrefix_nost' (σ.go j q) _ hx hno2).mono ?_
     rintro e w1 ⟨rfl,hx,hk1⟩
     have hkp:=hkp.trans hk1
     clear hk1
     go_wp2_with fail
     refine (startToken_at (σ.go j q) _ hx hts).mono ?_
     rintro e w1 ⟨rfl,hx1,hk1⟩
     go_wp2_with fail
     refine (eof_at _ _ hx1 _ hb).mono ?_
     rintro e w' ⟨rfl,rfl⟩
     go_wp2_with fail
     refine (peekRune_at _ _ hx1 hl 91 HS.out).mono ?_
     rintro e w' ⟨rfl,rfl⟩
     go_wp2_with fail
     refine (readRune_c _ _ hx1 hl 91 HS.out).mono ?_
     rintro e w2 ⟨rfl,hx2,hk2⟩
     go_wp2_with fail
     refine (endToken_plain _ j q 91 _ hx2 rfl (Nat.le_succ _) (fun _=>hx.hq (by have:=h.hn;show j < σ.C;omega)) rfl rfl).mono ?_
     rintro e w3 ⟨rfl,hx3,hk3⟩
     go_wp2
     go_end0
     exact ⟨_,.slice (some ⟨σ.D,q,none⟩) (σ.T.length - j) (σ.C - j),rfl,⟨_,_,_,rfl⟩,hx3,hkp.trans (hk1.trans (hk2.trans hk3))⟩
   · have hw:=hws j hj (by omega)
     have h13:(((ch σ.T j:Nat):Int) == 13)=false:=by simp;omega
     have hc32:(((ch σ.T j:Nat):Int) == 32)=true∨((((ch σ.T j:Nat):Int) == 32)=false∧(((ch σ.T j:Nat):Int) == 9)=true):=by
       rcases hw with h | h
       · left;simp;omega
       · right;constructor <;> simp <;> omega
     have HW:=hide hws
     clear hws hw
     rcases hc32 with hc | ⟨hc,hc9⟩
     all_goals
       go_wp2_with (first
         | (go_at_call 84;refine (eof_at (σ.go j q) _ hx _ hb).mono ?_;rintro e w' ⟨rfl,rfl⟩)
         | (go_at_call 85;refine (peekRune_at (σ.go j q) _ hx hl (ch σ.T j) rfl).mono ?_;rintro e w' ⟨rfl,rfl⟩)
         | (go_at_call 86;refine (readRune_c (σ.go j q) _ hx hl (ch σ.T j) rfl).mono ?_;rintro e w1 ⟨rfl,hx1,hk1⟩))
       go_roundg (gk - 1)
       case measure=>omega
       case rel=>exact hide ⟨j+1,_,by omega,by omega,hx1,hkp.trans hk1⟩
set_option maxHeartbeats 2000000 in
theorem readToken_p93 (σ:Lx) (w:World) (s:Nat) (h:LxAt w σ) (hts:IsSl σ.ts) (hps:σ.p≤s) (hsl:s < σ.T.length) (hws:∀ i,σ.p≤i→i < s→ch σ.T i=32∨ch σ.T i=9) (hs:ch σ.T s=93) :
   Calls Tryz.prog 59 #[.pointer (some ⟨σ.B,0,none⟩)] w (Lexed w σ 93 s (s+1) (mkS (seg σ.T s (s+1)))):=by
 have hp:=h.hp
 have HS:=hide hs
 clear hs
 go_enter Tryz.func59,Tryz.ntmps59
 go_wp2
 go_loopg [2,3,4] (s - σ.p) (fun k _ _ _ wr=>Hid (∃ j q,σ.p≤j∧j+k=s∧LxAt wr (σ.go j q)∧Kp (fun i=>i=σ.B) w wr))
 case atStart=>exact hide ⟨σ.p,σ.q,Nat.le_refl _,by omega,h,Kp.refl _ _⟩
 case round =>
   obtain ⟨j,q,hj,hjk,hx,hkp⟩:=hrel.out
   clear hrel
   have hb:(((σ.T.length - j:Nat):Int) == 0)=false:=by simp;omega
   have hl:(σ.go j q).p < (σ.go j q).T.length:=by show j < σ.T.length;omega
   rcases Nat.eq_zero_or_pos gk with h0 | h0
   · subst h0
     obtain rfl:j=s:=by omega
     have hno1:¬ ((σ.go j q).p+1 < (σ.go j q).T.length∧ch (σ.go j q).T (σ.go j q).p=47∧ch (σ.go j q).T ((σ.go j q).p+1)=47):=by rintro ⟨_,h2,_⟩;have:=HS.out;simp only [Lx.go] at h2;omega
     have hno2:¬ ((σ.go j q).p+1 < (σ.go j q).T.length∧ch (σ.go j q).T (σ.go j q).p=47∧ch (σ.go j q).T ((σ.go j q).p+1)=42):=by rintro ⟨_,h2,_⟩;have:=HS.out;simp only [Lx.go] at h2;omega
     go_wp2_with (first
       | (go_at_call 84;refine (eof_at (σ.go j q) _ hx _ hb).mono ?_;rintro e w' ⟨rfl,rfl⟩)
       | (go_at_call 85;refine (peekRune_at (σ.go j q) _ hx hl 93 HS.out).mono ?_;rintro e w' ⟨rfl,rfl⟩)
       | fail)
     refine (peekPrefix_nosl' (σ.go j q) _ hx hno1).mono ?_
     rintro e w1 ⟨rfl,hx,hk1⟩
     have hkp:=hkp.trans hk1
     clear hk1
     go_wp2_with fail
     refine (peekPrefix_nost' (σ.go j q) _ hx hno2).mono ?_
     rintro e w1 ⟨rfl,hx,hk1⟩
     have hkp:=hkp.trans hk1
     clear hk1
     go_wp2_with fail
     refine (startToken_at (σ.go j q) _ hx hts).mono ?_
     rintro e w1 ⟨rfl,hx1,hk1⟩
     go_wp2_with fail
     refine (eof_at _ _ hx1 _ hb).mono ?_
     rintro e w' ⟨rfl,rfl⟩
     go_wp2_with fail
     refine (peekRune_at _ _ hx1 hl 93 HS.out).mono ?_
     rintro e w' ⟨rfl,rfl⟩
     go_wp2_with fail
     refine (readRune_c _ _ hx1 hl 93 HS.out).mono ?_
     rintro e w2 ⟨rfl,hx2,hk2⟩
     go_wp2_with fail
     refine (endToken_plain _ j q 93 _ hx2 rfl (Nat.le_succ _) (fun _=>hx.hq (by have:=h.hn;show j < σ.C;omega)) rfl rfl).mono ?_
     rintro e w3 ⟨rfl,hx3,hk3⟩
     go_wp2
     go_end0
     exact ⟨_,.slice (some ⟨σ.D,q,none⟩) (σ.T.length - j) (σ.C - j),rfl,⟨_,_,_,rfl⟩,hx3,hkp.trans (hk1.trans (hk2.trans hk3))⟩
   · have hw:=hws j hj (by omega)
     have h13:(((ch σ.T j:Nat):Int) == 13)=false:=by simp;omega
     have hc32:(((ch σ.T j:Nat):Int) == 32)=true∨((((ch σ.T j:Nat):Int) == 32)=false∧(((ch σ.T j:Nat):Int) == 9)=true):=by
       rcases hw with h | h
       · left;simp;omega
       · right;constructor <;> simp <;> omega
     have HW:=hide hws
     clear hws hw
     rcases hc32 with hc | ⟨hc,hc9⟩
     all_goals
       go_wp2_with (first
         | (go_at_call 84;refine (eof_at (σ.go j q) _ hx _ hb).mono ?_;rintro e w' ⟨rfl,rfl⟩)
         | (go_at_call 85;refine (peekRune_at (σ.go j q) _ hx hl (ch σ.T j) rfl).mono ?_;rintro e w' ⟨rfl,rfl⟩)
         | (go_at_call 86;refine (readRune_c (σ.go j q) _ hx hl (ch σ.T j) rfl).mono ?_;rintro e w1 ⟨rfl,hx1,hk1⟩))
       go_roundg (gk - 1)
       case measure=>omega
       case rel=>exact hide ⟨j+1,_,by omega,by omega,hx1,hkp.trans hk1⟩
set_option maxHeartbeats 2000000 in
theorem readToken_p44 (σ:Lx) (w:World) (s:Nat) (h:LxAt w σ) (hts:IsSl σ.ts) (hps:σ.p≤s) (hsl:s < σ.T.length) (hws:∀ i,σ.p≤i→i < s→ch σ.T i=32∨ch σ.T i=9) (hs:ch σ.T s=44) :
   Calls Tryz.prog 59 #[.pointer (some ⟨σ.B,0,none⟩)] w (Lexed w σ 44 s (s+1) (mkS (seg σ.T s (s+1)))):=by
 have hp:=h.hp
 have HS:=hide hs
 clear hs
 go_enter Tryz.func59,Tryz.ntmps59
 go_wp2
 go_loopg [2,3,4] (s - σ.p) (fun k _ _ _ wr=>Hid (∃ j q,σ.p≤j∧j+k=s∧LxAt wr (σ.go j q)∧Kp (fun i=>i=σ.B) w wr))
 case atStart=>exact hide ⟨σ.p,σ.q,Nat.le_refl _,by omega,h,Kp.refl _ _⟩
 case round =>
   obtain ⟨j,q,hj,hjk,hx,hkp⟩:=hrel.out
   clear hrel
   have hb:(((σ.T.length - j:Nat):Int) == 0)=false:=by simp;omega
   have hl:(σ.go j q).p < (σ.go j q).T.length:=by show j < σ.T.length;omega
   rcases Nat.eq_zero_or_pos gk with h0 | h0
   · subst h0
     obtain rfl:j=s:=by omega
     have hno1:¬ ((σ.go j q).p+1 < (σ.go j q).T.length∧ch (σ.go j q).T (σ.go j q).p=47∧ch (σ.go j q).T ((σ.go j q).p+1)=47):=by rintro ⟨_,h2,_⟩;have:=HS.out;simp only [Lx.go] at h2;omega
     have hno2:¬ ((σ.go j q).p+1 < (σ.go j q).T.length∧ch (σ.go j q).T (σ.go j q).p=47∧ch (σ.go j q).T ((σ.go j q).p+1)=42):=by rintro ⟨_,h2,_⟩;have:=HS.out;simp only [Lx.go] at h2;omega
     go_wp2_with (first
       | (go_at_call 84;refine (eof_at (σ.go j q) _ hx _ hb).mono ?_;rintro e w' ⟨rfl,rfl⟩)
       | (go_at_call 85;refine (peekRune_at (σ.go j q) _ hx hl 44 HS.out).mono ?_;rintro e w' ⟨rfl,rfl⟩)
       | fail)
     refine (peekPrefix_nosl' (σ.go j q) _ hx hno1).mono ?_
     rintro e w1 ⟨rfl,hx,hk1⟩
     have hkp:=hkp.trans hk1
     clear hk1
     go_wp2_with fail
     refine (peekPrefix_nost' (σ.go j q) _ hx hno2).mono ?_
     rintro e w1 ⟨rfl,hx,hk1⟩
     have hkp:=hkp.trans hk1
     clear hk1
     go_wp2_with fail
     refine (startToken_at (σ.go j q) _ hx hts).mono ?_
     rintro e w1 ⟨rfl,hx1,hk1⟩
     go_wp2_with fail
     refine (eof_at _ _ hx1 _ hb).mono ?_
     rintro e w' ⟨rfl,rfl⟩
     go_wp2_with fail
     refine (peekRune_at _ _ hx1 hl 44 HS.out).mono ?_
     rintro e w' ⟨rfl,rfl⟩
     go_wp2_with fail
     refine (readRune_c _ _ hx1 hl 44 HS.out).mono ?_
     rintro e w2 ⟨rfl,hx2,hk2⟩
     go_wp2_with fail
     refine (endToken_plain _ j q 44 _ hx2 rfl (Nat.le_succ _) (fun _=>hx.hq (by have:=h.hn;show j < σ.C;omega)) rfl rfl).mono ?_
     rintro e w3 ⟨rfl,hx3,hk3⟩
     go_wp2
     go_end0
     exact ⟨_,.slice (some ⟨σ.D,q,none⟩) (σ.T.length - j) (σ.C - j),rfl,⟨_,_,_,rfl⟩,hx3,hkp.trans (hk1.trans (hk2.trans hk3))⟩
   · have hw:=hws j hj (by omega)
     have h13:(((ch σ.T j:Nat):Int) == 13)=false:=by simp;omega
     have hc32:(((ch σ.T j:Nat):Int) == 32)=true∨((((ch σ.T j:Nat):Int) == 32)=false∧(((ch σ.T j:Nat):Int) == 9)=true):=by
       rcases hw with h | h
       · left;simp;omega
       · right;constructor <;> simp <;> omega
     have HW:=hide hws
     clear hws hw
     rcases hc32 with hc | ⟨hc,hc9⟩
     all_goals
       go_wp2_with (first
         | (go_at_call 84;refine (eof_at (σ.go j q) _ hx _ hb).mono ?_;rintro e w' ⟨rfl,rfl⟩)
         | (go_at_call 85;refine (peekRune_at (σ.go j q) _ hx hl (ch σ.T j) rfl).mono ?_;rintro e w' ⟨rfl,rfl⟩)
         | (go_at_call 86;refine (readRune_c (σ.go j q) _ hx hl (ch σ.T j) rfl).mono ?_;rintro e w1 ⟨rfl,hx1,hk1⟩))
       go_roundg (gk - 1)
       case measure=>omega
       case rel=>exact hide ⟨j+1,_,by omega,by omega,hx1,hkp.trans hk1⟩
end
end Go.Proofs.YtifkpibjeamfkaaGreatFmt
