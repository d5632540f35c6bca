/-
  Contents as documents; what is read of them, over any table: all lines are of known kinds, and a line is refused or the last line is read.
  Contents: their documents, and what is read of them.
-/
import Derived.Test.YtifkpibjeamfkaaGreatFmtZ28
import Derived.Test.YtifkpibjeamfkaaGreatFmtZ14
set_option linter.unusedVariables false
set_option linter.unusedSimpArgs false
set_option maxRecDepth 100000
namespace Go.Proofs.YtifkpibjeamfkaaGreatFmt
section
open Go.RowKit Go.Proofs
def wch2 (c:Nat):Bool:=wch c || c == 45
structure NiceL (u:List UInt8):Prop where
 pos:0 < u.length
 len:u.length≤1000
 chars:∀ k,k < u.length→wch2 (ch u k)=true
 no2:∀ k,k+1 < u.length→¬ (ch u k=47∧ch u (k+1)=47)
theorem wch2_bd {c:Nat} (h:wch2 c=true):(97≤c∧c≤122)∨(48≤c∧c≤57)∨c=46∨c=47∨c=45:=by
 simp only [wch2,wch,letB,digB,Bool.or_eq_true,decide_eq_true_eq,beq_iff_eq] at h
 omega
theorem NiceL.idW {u:List UInt8} (h:NiceL u):IdW u:=by
 refine ⟨h.pos,fun i hi=>⟨?_,?_,?_⟩,?_,?_⟩
 · have:=wch2_bd (h.chars i hi)
   simp only [idB,decide_eq_true_eq]
   omega
 · rintro ⟨a,b,c⟩
   exact h.no2 i a ⟨b,c⟩
 · rintro ⟨a,b,c⟩
   have:=wch2_bd (h.chars (i+1) a)
   omega
 · have:=wch2_bd (h.chars 0 h.pos);omega
 · have:=wch2_bd (h.chars 0 h.pos);omega
theorem NiceL.wd {u:List UInt8} (h:NiceL u):WdG u:=Or.inl h.idW
theorem NiceL.kG {u:List UInt8} (h:NiceL u):kG u=-3:=kG_id h.idW
def DgN (n:List UInt8):Prop:=0 < n.length∧n.length≤9∧(∀ c ∈ n,48≤c.toNat∧c.toNat≤57)∧(ch n 0=48→n.length=1)
def VerL (v:List UInt8):Prop:=∃ (m:UInt8) (n1 n2 pre:List UInt8),v=118 :: m :: 46 :: (n1++46 :: (n2++pre))∧(m=48∨m=49)∧DgN n1∧DgN n2∧(pre=[]∨∃ l,pre=45 :: l∧0 < l.length∧l.length≤20∧∀ c ∈ l,97≤c.toNat∧c.toNat≤122)
def NotV (y:List UInt8):Prop:=ch y 0≠118∨digB (ch y 1)=false
def moW:List UInt8:=[109,111,100,117,108,101]
def goW:List UInt8:=[103,111]
def tcW:List UInt8:=[116,111,111,108,99,104,97,105,110]
def rqW:List UInt8:=[114,101,113,117,105,114,101]
def exW:List UInt8:=[101,120,99,108,117,100,101]
def rpW:List UInt8:=[114,101,112,108,97,99,101]
def rtW:List UInt8:=[114,101,116,114,97,99,116]
def toW:List UInt8:=[116,111,111,108]
def igW:List UInt8:=[105,103,110,111,114,101]
def arW:List UInt8:=[61,62]
def indT:List UInt8:=[47,47,32,105,110,100,105,114,101,99,116]
def Wrd (u:List UInt8):Prop:=NiceL u∨u=[40]∨u=[41]∨u=[91]∨u=[93]∨u=[44]∨u=[61,62]
inductive LineC:List UInt8→List (List UInt8)→Prop
 | module (p:List UInt8) (h:PathF (mkS p)):LineC moW [p]
 | go (v:List UInt8) (h:NiceL v):LineC goW [v]
 | chain (t:List UInt8) (h:NiceL t):LineC tcW [t]
 | req (p v:List UInt8) (hp:PathF (mkS p)) (hv:VerL v):LineC rqW [p,v]
 | reqN (a:List (List UInt8)) (h:a.length≠2):LineC rqW a
 | reqV (x y:List UInt8) (hx:Wrd x) (hy:Wrd y) (hv:NotV y):LineC rqW [x,y]
 | exc (p v:List UInt8) (hp:PathF (mkS p)) (hv:VerL v):LineC exW [p,v]
 | rep1 (p n:List UInt8) (hp:PathF (mkS p)) (hn:NiceL n):LineC rpW [p,arW,n]
 | rep2 (p n m:List UInt8) (hp:PathF (mkS p)) (hn:NiceL n) (hm:VerL m):LineC rpW [p,arW,n,m]
 | rep3 (p v n:List UInt8) (hp:PathF (mkS p)) (hv:VerL v) (hn:NiceL n):LineC rpW [p,v,arW,n]
 | rep4 (p v n m:List UInt8) (hp:PathF (mkS p)) (hv:VerL v) (hn:NiceL n) (hm:VerL m):LineC rpW [p,v,arW,n,m]
 | ret1 (v:List UInt8) (hv:VerL v):LineC rtW [v]
 | ret2 (v m:List UInt8) (hv:VerL v) (hm:VerL m):LineC rtW [[91],v,[44],m,[93]]
 | tool (p:List UInt8) (h:NiceL p):LineC toW [p]
 | ign (p:List UInt8) (h:NiceL p):LineC igW [p]
def BlockV (v:List UInt8):Prop:=v=rqW∨v=exW∨v=rpW∨v=rtW∨v=toW∨v=igW
def ClassS:StT→Prop
 | .line v a=>LineC v a
 | .block v a ls=>a=[]∧BlockV v∧∀ l ∈ ls,LineC v l
def LongS:StT→Prop
 | .line v a=>v=rqW∧a.length≠2
 | .block v a ls=>v=rqW∧∃ l ∈ ls,l.length≠2
def PP (tl:StT) (ss:List StT) (b:Bool):Prop:=(∀ s ∈ ss,ClassS s)∧(b=true→(∃ s ∈ ss,LongS s)∨tl ∈ ss)
theorem PP.cons {tl s:StT} {ss:List StT} {b:Bool} (h:PP tl ss b) (hs:ClassS s):PP tl (s :: ss) b :=
 ⟨fun x hx=>by
   rcases List.mem_cons.1 hx with rfl | hx
   · exact hs
   · exact h.1 x hx,fun e=>(h.2 e).imp (fun ⟨x,hx,hl⟩=>⟨x,List.mem_cons_of_mem _ hx,hl⟩) (fun h=>List.mem_cons_of_mem _ h)⟩
theorem PP.long {tl tl' s:StT} {ss:List StT} {b:Bool} (h:∀ x ∈ ss,ClassS x) (hs:ClassS s) (hl:LongS s):PP tl (s :: ss) b :=
 ⟨fun x hx=>by
   rcases List.mem_cons.1 hx with rfl | hx
   · exact hs
   · exact h x hx,fun _=>Or.inl ⟨s,List.mem_cons_self ..,hl⟩⟩
structure Itm where
 why:List UInt8
 hd:List UInt8
 tl:List Wt
 com:Option (List UInt8 × List UInt8)
def Itm.words (i:Itm):List (List UInt8):=i.hd :: i.tl.map Wt.u
def blank:Dl:=⟨[],none⟩
def closeD:Dl:=⟨[⟨[],[41]⟩],none⟩
def headD (v:List UInt8):Dl:=⟨[⟨[],v⟩,⟨[32],[40]⟩],none⟩
def whyD (g why:List UInt8):List Dl:=if why=[] then [] else [⟨[],some (g,47 :: 47 :: 32 :: why)⟩]
def itmN (v:List UInt8) (i:Itm):List Dl:=whyD [] i.why++[⟨⟨[],v⟩ :: ⟨[32],i.hd⟩ :: i.tl,i.com⟩,blank]
def itmB (i:Itm):List Dl:=whyD [9] i.why++[⟨⟨[9],i.hd⟩ :: i.tl,i.com⟩]
def secN (v:List UInt8) (is:List Itm):List Dl:=is.flatMap (itmN v)
def bodyD (is:List Itm):List Dl:=is.flatMap itmB
def secB (v:List UInt8) (is:List Itm):List Dl:=match is with
 | []=>[]
 | is=>headD v :: (bodyD is++[closeD,blank])
structure ItmC (v:List UInt8) (i:Itm):Prop where
 cls:LineC v i.words
 h41:kG i.hd≠41
 h40:kG i.hd≠40
 t40:∀ y ∈ i.tl,kG y.u≠40
 com:∀ g t,i.com=some (g,t)→v=rqW∧i.tl.length=1
def SwC (i:Itm):Prop:=LineC rqW i.words
section
variable {T:List UInt8} {ds:List Dl}
theorem reads_why (why:List UInt8) {Q:List StT→Bool→Prop} (h:ReadsP T ds Q):ReadsP T (whyD [] why++ds) Q:=by
 unfold whyD
 split
 · exact h
 · exact ReadsP.why rfl rfl h
theorem body_why (g why:List UInt8) {Q:List (List (List UInt8))→Option (List Dl)→Prop} (h:BodyQ T ds Q):BodyQ T (whyD g why++ds) Q:=by
 unfold whyD
 split
 · exact h
 · exact BodyQ.skip rfl h
theorem reads_itmN {tl:StT} {v:List UInt8} {i:Itm} (hi:ItmC v i) (h:ReadsP T ds (PP tl)):ReadsP T (itmN v i++ds) (PP tl):=by
 unfold itmN
 rw [List.append_assoc]
 apply reads_why
 have h40:∀ y ∈ (⟨[32],i.hd⟩ :: i.tl:List Wt),kG y.u≠40:=by
   intro y hy
   rcases List.mem_cons.1 hy with rfl | hy
   · exact hi.h40
   · exact hi.t40 y hy
 rcases hc:i.com with _ | ⟨g,t⟩
 · refine (ReadsP.line (d:=⟨⟨[],v⟩ :: ⟨[32],i.hd⟩ :: i.tl,none⟩) rfl h40 rfl (ReadsP.blank (d:=blank) rfl rfl h)).mono ?_
   rintro ss b ⟨ss',rfl,hp⟩
   exact hp.cons hi.cls
 · refine (ReadsP.com (d:=⟨⟨[],v⟩ :: ⟨[32],i.hd⟩ :: i.tl,some (g,t)⟩) (d2:=blank) rfl h40 rfl rfl rfl h).mono ?_
   obtain ⟨rfl,hl⟩:=hi.com g t hc
   rintro ss b ⟨ss',rfl | rfl,hp⟩
   · exact hp.cons hi.cls
   · have hne:(List.map Wt.u (⟨[32],i.hd⟩ :: i.tl:List Wt)++[t]).length≠2:=by simp [hl]
     exact PP.long (tl':=tl) hp.1 (LineC.reqN _ hne) ⟨rfl,hne⟩
theorem reads_secN {tl:StT} {v:List UInt8} {is:List Itm} (hi:∀ i ∈ is,ItmC v i) (h:ReadsP T ds (PP tl)):ReadsP T (secN v is++ds) (PP tl):=by
 induction is with
 | nil=>exact h
 | cons i is ih =>
   have e:secN v (i :: is)++ds=itmN v i++(secN v is++ds):=by simp [secN]
   rw [e]
   exact reads_itmN (hi i (List.mem_cons_self ..)) (ih (fun x hx=>hi x (List.mem_cons_of_mem _ hx)))
theorem body_plain {is:List Itm} (hi:∀ i ∈ is,kG i.hd≠41∧i.com=none):BodyQ T (bodyD is++closeD :: ds) (fun bl r=>bl=is.map Itm.words∧r=some ds):=by
 induction is with
 | nil=>exact BodyQ.close (x:=⟨[],[41]⟩) rfl (by decide) rfl
 | cons i is ih =>
   have e:bodyD (i :: is)++closeD :: ds=whyD [9] i.why++(⟨⟨[9],i.hd⟩ :: i.tl,i.com⟩ :: (bodyD is++closeD :: ds)):=by simp [bodyD,itmB]
   rw [e]
   apply body_why
   refine (BodyQ.line (d:=⟨⟨[9],i.hd⟩ :: i.tl,i.com⟩) rfl (hi i (List.mem_cons_self ..)).1 (hi i (List.mem_cons_self ..)).2 (ih (fun x hx=>hi x (List.mem_cons_of_mem _ hx)))).mono ?_
   rintro bl r ⟨bl',rfl,rfl,rfl⟩
   exact ⟨rfl,rfl⟩
theorem reads_secB {tl:StT} {v:List UInt8} {is:List Itm} (hi:∀ i ∈ is,ItmC v i∧i.com=none) (hv:BlockV v) (hk:kG v=-3) (h:ReadsP T ds (PP tl)):ReadsP T (secB v is++ds) (PP tl):=by
 rcases is with _ | ⟨i,is⟩
 · exact h
 · have e:secB v (i :: is)++ds=headD v :: (bodyD (i :: is)++closeD :: (blank :: ds)):=by simp [secB]
   rw [e]
   refine ReadsP.block (d:=headD v) (x:=⟨[],v⟩) (y:=⟨[32],[40]⟩) rfl hk (by decide) rfl (body_plain (fun x hx=>⟨(hi x hx).1.h41,(hi x hx).2⟩)) ?_ ?_
   · rintro bl ⟨_,h⟩
     cases h
   · rintro bl ds' ⟨rfl,h2⟩
     cases h2
     refine (ReadsP.blank (d:=blank) rfl rfl h).mono ?_
     intro ss b hp
     refine hp.cons ⟨rfl,hv,fun l hl=>?_⟩
     obtain ⟨j,hj,rfl⟩:=List.mem_map.1 hl
     exact (hi j hj).1.cls
def RestOk (T:List UInt8) (r:Option (List Dl)):Prop:=r=none∨∃ ds',r=some ds'∧ReadsP T ds' (fun ss b=>∀ s ∈ ss,ClassS s)
def Q2 (T:List UInt8) (bl:List (List (List UInt8))) (r:Option (List Dl)):Prop:=(∀ l ∈ bl,LineC rqW l)∧RestOk T r
def QR (T:List UInt8) (rest:List Dl) (bl:List (List (List UInt8))) (r:Option (List Dl)):Prop:=(∀ l ∈ bl,LineC rqW l)∧(r=some rest∨((∃ l ∈ bl,l.length≠2)∧RestOk T r))
def QJ (T:List UInt8) (rest:List Dl) (bl:List (List (List UInt8))) (r:Option (List Dl)):Prop:=(∀ l ∈ bl,LineC rqW l)∧(∃ l ∈ bl,l.length≠2)∧(r=some rest∨RestOk T r)
structure ReqI (i:Itm):Prop where
 c:ItmC rqW i
 why:i.why=[]
 tl:i.tl.length=1
theorem all_cons {p:List (List UInt8)→Prop} {a:List (List UInt8)} {l:List (List (List UInt8))} (ha:p a) (hl:∀ x ∈ l,p x):∀ x ∈ a :: l,p x:=fun x hx=>by
 rcases List.mem_cons.1 hx with rfl | hx
 · exact ha
 · exact hl x hx
theorem body_req {rest:List Dl} (h2:BodyQ T rest (Q2 T)) (is:List Itm) (hi:∀ i ∈ is,ReqI i) :
   BodyQ T (bodyD is++closeD :: rest) (QR T rest)∧∀ acc:List (List UInt8),3≤acc.length→JoinQ T acc (bodyD is++closeD :: rest) (QJ T rest):=by
 induction is with
 | nil =>
   refine ⟨(BodyQ.close (x:=⟨[],[41]⟩) rfl (by decide) rfl).mono ?_,fun acc ha=>(JoinQ.line (d:=closeD) rfl h2).mono ?_⟩
   · rintro bl r ⟨rfl,rfl⟩
     exact ⟨by simp,Or.inl rfl⟩
   · rintro bl r ⟨bl',rfl,h3,h4⟩
     have hne:(acc++closeD.ws.map Wt.u).length≠2:=by simp [closeD];omega
     exact ⟨all_cons (LineC.reqN _ hne) h3,⟨_,List.mem_cons_self ..,hne⟩,Or.inr h4⟩
 | cons i is ih =>
   obtain ⟨ih1,ih2⟩:=ih (fun x hx=>hi x (List.mem_cons_of_mem _ hx))
   have hii:=hi i (List.mem_cons_self ..)
   have e:bodyD (i :: is)++closeD :: rest=⟨⟨[9],i.hd⟩ :: i.tl,i.com⟩ :: (bodyD is++closeD :: rest):=by simp [bodyD,itmB,hii.why,whyD]
   have hlen:(List.map Wt.u (⟨[9],i.hd⟩ :: i.tl:List Wt)).length=2:=by simp [hii.tl]
   have mono1:∀ {w:List (List UInt8)} {bl:List (List (List UInt8))} {r:Option (List Dl)},LineC rqW w→QR T rest bl r→QR T rest (w :: bl) r:=by
     rintro w bl r hw ⟨h3,h4⟩
     exact ⟨all_cons hw h3,h4.imp id (fun ⟨⟨l,hl,hn⟩,h5⟩=>⟨⟨l,List.mem_cons_of_mem _ hl,hn⟩,h5⟩)⟩
   have mono2:∀ {bl:List (List (List UInt8))} {r:Option (List Dl)},QJ T rest bl r→QR T rest bl r:=by
     rintro bl r ⟨h3,h4,h5⟩
     exact ⟨h3,h5.imp id (fun h5=>⟨h4,h5⟩)⟩
   have mono3:∀ {w:List (List UInt8)} {bl:List (List (List UInt8))} {r:Option (List Dl)},w.length≠2→QR T rest bl r→QJ T rest (w :: bl) r:=by
     rintro w bl r hw ⟨h3,h4⟩
     exact ⟨all_cons (LineC.reqN _ hw) h3,⟨w,List.mem_cons_self ..,hw⟩,h4.imp id (fun h=>h.2)⟩
   rw [e]
   rcases hc:i.com with _ | ⟨g,t⟩
   · refine ⟨(BodyQ.line (d:=⟨⟨[9],i.hd⟩ :: i.tl,none⟩) rfl hii.c.h41 rfl ih1).mono ?_,fun acc ha=>(JoinQ.line (d:=⟨⟨[9],i.hd⟩ :: i.tl,none⟩) rfl ih1).mono ?_⟩
     · rintro bl r ⟨bl',rfl,h3⟩
       exact mono1 hii.c.cls h3
     · rintro bl r ⟨bl',rfl,h3⟩
       exact mono3 (by simp only [List.length_append];omega) h3
   · refine ⟨(BodyQ.com (d:=⟨⟨[9],i.hd⟩ :: i.tl,some (g,t)⟩) rfl hii.c.h41 rfl ih1 (ih2 _ (by simp only [List.length_append,List.length_singleton];omega))).mono ?_,
       fun acc ha=>(JoinQ.com (d:=⟨⟨[9],i.hd⟩ :: i.tl,some (g,t)⟩) rfl ih1 (ih2 _ (by simp only [List.length_append,List.length_singleton];omega))).mono ?_⟩
     · rintro bl r (⟨bl',rfl,h3⟩ | h3)
       · exact mono1 hii.c.cls h3
       · exact mono2 h3
     · rintro bl r (⟨bl',rfl,h3⟩ | h3)
       · exact mono3 (by simp only [List.length_append];omega) h3
       · exact h3
theorem reads_secR {tl:StT} {is:List Itm} (hi:∀ i ∈ is,ReqI i) (hb:BodyQ T ds (Q2 T)) (h:ReadsP T ds (PP tl)):ReadsP T (secB rqW is++ds) (PP tl):=by
 rcases is with _ | ⟨i,is⟩
 · exact h
 · have e:secB rqW (i :: is)++ds=headD rqW :: (bodyD (i :: is)++closeD :: (blank :: ds)):=by simp [secB]
   rw [e]
   refine ReadsP.block (d:=headD rqW) (x:=⟨[],rqW⟩) (y:=⟨[32],[40]⟩) rfl (by decide) (by decide) rfl (body_req (BodyQ.skip (d:=blank) rfl hb) (i :: is) hi).1 ?_ ?_
   · intro bl _
     exact ⟨by simp,fun e=>by cases e⟩
   · rintro bl ds' ⟨h3,h4⟩
     rcases h4 with h4 | ⟨h4,h5⟩
     · cases h4
       refine (ReadsP.blank (d:=blank) rfl rfl h).mono ?_
       intro ss b hp
       exact hp.cons ⟨rfl,Or.inl rfl,h3⟩
     · rcases h5 with h5 | ⟨ds2,h5,h6⟩
       · cases h5
       · cases h5
         refine h6.mono ?_
         intro ss b hp
         exact PP.long (tl':=tl) hp ⟨rfl,Or.inl rfl,h3⟩ ⟨rfl,h4⟩
theorem sw_sec {v:List UInt8} {is:List Itm} (hi:∀ i ∈ is,SwC i∧kG i.hd≠41∧i.com=none) (hv:LineC rqW [v,[40]]) (hk:kG v≠41) (hb:BodyQ T ds (Q2 T)) (h:ReadsP T ds (fun ss b=>∀ s ∈ ss,ClassS s)):BodyQ T (secB v is++ds) (Q2 T):=by
 rcases is with _ | ⟨i,is⟩
 · exact hb
 · have e:secB v (i :: is)++ds=headD v :: (bodyD (i :: is)++closeD :: (blank :: ds)):=by simp [secB]
   rw [e]
   refine (BodyQ.line (d:=headD v) rfl hk rfl (body_plain (fun x hx=>(hi x hx).2))).mono ?_
   rintro bl r ⟨bl',rfl,rfl,rfl⟩
   refine ⟨all_cons hv (fun l hl=>?_),Or.inr ⟨_,rfl,ReadsP.blank (d:=blank) rfl rfl h⟩⟩
   obtain ⟨j,hj,rfl⟩:=List.mem_map.1 hl
   exact (hi j hj).1
theorem sw_tail {x y:List UInt8} (hx:kG x≠41) (hc:LineC rqW [x,y]):BodyQ T [⟨[⟨[],x⟩,⟨[32],y⟩],none⟩] (Q2 T):=by
 refine (BodyQ.line (d:=⟨[⟨[],x⟩,⟨[32],y⟩],none⟩) rfl hx rfl BodyQ.nil).mono ?_
 rintro bl r ⟨bl',rfl,rfl,rfl⟩
 exact ⟨all_cons hc (by simp),Or.inl rfl⟩
theorem reads_tail {x y:List UInt8} (hy:kG y≠40) (hc:LineC x [y]):ReadsP T [⟨[⟨[],x⟩,⟨[32],y⟩],none⟩] (PP (.line x [y])):=by
 refine (ReadsP.line (d:=⟨[⟨[],x⟩,⟨[32],y⟩],none⟩) rfl (by intro z hz;simp at hz;subst hz;exact hy) rfl ReadsP.nil).mono ?_
 rintro ss b ⟨ss',rfl,rfl,rfl⟩
 exact ⟨fun s hs=>by simp at hs;subst hs;exact hc,fun _=>Or.inr (by simp)⟩
end
end
section
open Go.RowKit Go.Proofs
structure CReq where
 p:List UInt8
 v:List UInt8
 ind:Bool
structure CVer where
 p:List UInt8
 v:List UInt8
structure CRep where
 op:List UInt8
 ov:List UInt8
 np:List UInt8
 nv:List UInt8
structure CRet where
 lo:List UInt8
 hi:List UInt8
 why:List UInt8
structure Cont where
 mod:List UInt8
 go:List UInt8
 tc:List UInt8
 reqs:List CReq
 excs:List CVer
 reps:List CRep
 rets:List CRet
 tools:List (List UInt8)
 igns:List (List UInt8)
def oneW (v:List UInt8):List Wt:=if v=[] then [] else [⟨[32],v⟩]
def reqI (r:CReq):Itm:=⟨[],r.p,[⟨[32],r.v⟩],if r.ind then some ([32],indT) else none⟩
def excI (r:CVer):Itm:=⟨[],r.p,oneW r.v,none⟩
def repI (r:CRep):Itm:=⟨[],r.op,oneW r.ov++(⟨[32],arW⟩ :: ⟨[32],r.np⟩ :: oneW r.nv),none⟩
def retI (r:CRet):Itm:=if r.lo=r.hi then ⟨r.why,r.lo,[],none⟩ else ⟨r.why,[91],[⟨[],r.lo⟩,⟨[],[44]⟩,⟨[32],r.hi⟩,⟨[],[93]⟩],none⟩
def pthI (p:List UInt8):Itm:=⟨[],p,[],none⟩
def wordL (v p:List UInt8):Dl:=⟨[⟨[],v⟩,⟨[32],p⟩],none⟩
def optL (v p:List UInt8):List Dl:=if p=[] then [] else [wordL v p,blank]
def secD (blk:Bool) (v:List UInt8) (is:List Itm):List Dl:=if blk then secB v is else secN v is
def bodyOf (c:Cont) (blk:Bool):List Dl :=
 secD blk rqW (c.reqs.map reqI)++(secD blk exW (c.excs.map excI)++(secD blk rpW (c.reps.map repI)++(secD blk rtW (c.rets.map retI)++(secD blk toW (c.tools.map pthI)++secD blk igW (c.igns.map pthI)))))
def docOf (c:Cont) (blk:Bool) (tv tp:List UInt8):List Dl :=
 wordL moW c.mod :: blank :: (optL goW c.go++(optL tcW c.tc++(bodyOf c blk++[wordL tv tp])))
structure WhyL (w:List UInt8):Prop where
 len:w.length≤1100
 chars:∀ i,i < w.length→ch w i≠10∧ch w i≠13∧ch w i < 128
structure ContF (c:Cont):Prop where
 mod:PathF (mkS c.mod)
 go:c.go=[]∨NiceL c.go
 tc:c.tc=[]∨NiceL c.tc
 reqs:∀ r ∈ c.reqs,PathF (mkS r.p)∧VerL r.v
 excs:∀ r ∈ c.excs,PathF (mkS r.p)∧VerL r.v
 reps:∀ r ∈ c.reps,PathF (mkS r.op)∧(r.ov=[]∨VerL r.ov)∧NiceL r.np∧(r.nv=[]∨VerL r.nv)
 rets:∀ r ∈ c.rets,VerL r.lo∧VerL r.hi∧WhyL r.why
 tools:∀ p ∈ c.tools,NiceL p
 igns:∀ p ∈ c.igns,NiceL p
 n1:c.reqs.length≤100
 n2:c.excs.length≤100
 n3:c.reps.length≤100
 n4:c.rets.length≤100
 n5:c.tools.length≤100
 n6:c.igns.length≤100
theorem ch_memH (u:List UInt8) (i:Nat) (h:i < u.length):∃ c ∈ u,ch u i=c.toNat:=⟨u[i],List.getElem_mem h,by simp [ch,List.getD_eq_getElem?_getD,List.getElem?_eq_getElem h]⟩
theorem pathF_nice {p:List UInt8} (h:PathF (mkS p)):NiceL p:=by
 have hn:=h.nice
 have e:bsl (mkS p)=p:=rfl
 have hl:(mkS p).size=p.length:=by rw [← bsl_len,e]
 have hb:∀ k,bt (mkS p) k=ch p k:=fun k=>by rw [bt_ch,e]
 refine ⟨by have:=hn.pos;omega,by have:=h.len;omega,fun k hk=>?_,fun k hk=>?_⟩
 · have:=hn.chars k (by omega)
   rw [hb] at this
   simp [wch2,this]
 · have:=hn.sl k (by omega)
   rw [hb,hb] at this
   exact fun ⟨a,b⟩=>this a b
theorem ch_cons (a:UInt8) (l:List UInt8) (i:Nat):ch (a :: l) (i+1)=ch l i:=by simp [ch]
theorem ch_zero (a:UInt8) (l:List UInt8):ch (a :: l) 0=a.toNat:=by simp [ch]
theorem nice_of (l:List UInt8) (h0:0 < l.length) (hl:l.length≤1000) (hc:∀ c ∈ l,wch2 c.toNat=true∧c.toNat≠47):NiceL l:=by
 have key:∀ k,k < l.length→wch2 (ch l k)=true∧ch l k≠47:=fun k hk=>by
   obtain ⟨c,hm,e⟩:=ch_memH l k hk
   rw [e];exact hc c hm
 exact ⟨h0,hl,fun k hk=>(key k hk).1,fun k hk h=>(key k (by omega)).2 h.1⟩
theorem VerL.all {v:List UInt8} (h:VerL v):v.length≤50∧0 < v.length∧∀ c ∈ v,wch2 c.toNat=true∧c.toNat≠47:=by
 obtain ⟨m,n1,n2,pre,rfl,hm,h1,h2,hp⟩:=h
 have dg:∀ c:UInt8,48≤c.toNat∧c.toNat≤57→wch2 c.toNat=true∧c.toNat≠47:=fun c hc=>⟨by simp [wch2,wch,digB,hc.1,hc.2],by omega⟩
 have hpl:pre.length≤21:=by
   rcases hp with rfl | ⟨l,rfl,_,hl,_⟩ <;> simp;omega
 refine ⟨by have:=h1.2.1;have:=h2.2.1;simp;omega,by simp,fun c hc=>?_⟩
 simp only [List.mem_cons,List.mem_append] at hc
 rcases hc with rfl | rfl | rfl | hc | rfl | hc | hc
 · exact ⟨by decide,by decide⟩
 · rcases hm with rfl | rfl <;> exact ⟨by decide,by decide⟩
 · exact ⟨by decide,by decide⟩
 · exact dg c (h1.2.2.1 c hc)
 · exact ⟨by decide,by decide⟩
 · exact dg c (h2.2.2.1 c hc)
 · rcases hp with rfl | ⟨l,rfl,_,_,hl⟩
   · cases hc
   · rcases List.mem_cons.1 hc with rfl | hc
     · exact ⟨by decide,by decide⟩
     · have:=hl c hc
       exact ⟨by simp [wch2,wch,letB,this.1,this.2],by omega⟩
theorem VerL.nice {v:List UInt8} (h:VerL v):NiceL v:=by
 obtain ⟨h1,h2,h3⟩:=h.all
 exact nice_of v h2 (by omega) h3
theorem req_i {r:CReq} (h:PathF (mkS r.p)∧VerL r.v):ReqI (reqI r):=by
 have hn:=pathF_nice h.1
 refine ⟨⟨LineC.req _ _ h.1 h.2,?_,?_,?_,?_⟩,rfl,rfl⟩
 · show kG r.p≠41;rw [hn.kG];decide
 · show kG r.p≠40;rw [hn.kG];decide
 · intro y hy
   obtain rfl:=List.mem_singleton.1 hy
   show kG r.v≠40;rw [h.2.nice.kG];decide
 · intro g t _;exact ⟨rfl,rfl⟩
structure PlI (v:List UInt8) (i:Itm):Prop where
 c:ItmC v i
 com:i.com=none
 sw:SwC i
theorem oneW_mem {v:List UInt8} {y:Wt} (hv:v=[]∨VerL v) (h:y ∈ oneW v):kG y.u≠40:=by
 unfold oneW at h
 split at h
 · cases h
 · rename_i hne
   obtain rfl:=List.mem_singleton.1 h
   rcases hv with hv | hv
   · exact absurd hv hne
   · rw [hv.nice.kG];decide
theorem VerL.ne {v:List UInt8} (h:VerL v):v≠[]:=by
 rintro rfl
 have:=h.all.2.1
 simp at this
theorem oneW_nil:oneW []=[]:=rfl
theorem oneW_ver {v:List UInt8} (h:VerL v):oneW v=[⟨[32],v⟩]:=by unfold oneW;rw [if_neg h.ne]
theorem exc_i {r:CVer} (h:PathF (mkS r.p)∧VerL r.v):PlI exW (excI r):=by
 have hn:=pathF_nice h.1
 have e:(excI r).words=[r.p,r.v]:=by simp [Itm.words,excI,oneW_ver h.2]
 refine ⟨⟨by rw [e];exact LineC.exc _ _ h.1 h.2,?_,?_,?_,?_⟩,rfl,by unfold SwC;rw [e];exact LineC.req _ _ h.1 h.2⟩
 · show kG r.p≠41;rw [hn.kG];decide
 · show kG r.p≠40;rw [hn.kG];decide
 · intro y hy;exact oneW_mem (Or.inr h.2) hy
 · intro g t h;cases h
theorem rep_i {r:CRep} (h:PathF (mkS r.op)∧(r.ov=[]∨VerL r.ov)∧NiceL r.np∧(r.nv=[]∨VerL r.nv)):PlI rpW (repI r):=by
 obtain ⟨h1,h2,h3,h4⟩:=h
 have hn:=pathF_nice h1
 have key:LineC rpW (repI r).words∧SwC (repI r):=by
   unfold SwC Itm.words repI
   rcases h2 with h2 | h2 <;> rcases h4 with h4 | h4
   · rw [h2,h4,oneW_nil]
     exact ⟨LineC.rep1 _ _ h1 h3,LineC.reqN _ (by simp)⟩
   · rw [h2,oneW_nil,oneW_ver h4]
     exact ⟨LineC.rep2 _ _ _ h1 h3 h4,LineC.reqN _ (by simp)⟩
   · rw [h4,oneW_nil,oneW_ver h2]
     exact ⟨LineC.rep3 _ _ _ h1 h2 h3,LineC.reqN _ (by simp)⟩
   · rw [oneW_ver h2,oneW_ver h4]
     exact ⟨LineC.rep4 _ _ _ _ h1 h2 h3 h4,LineC.reqN _ (by simp)⟩
 refine ⟨⟨key.1,?_,?_,?_,?_⟩,rfl,key.2⟩
 · show kG r.op≠41;rw [hn.kG];decide
 · show kG r.op≠40;rw [hn.kG];decide
 · intro y hy
   simp only [repI,List.mem_append,List.mem_cons] at hy
   rcases hy with hy | rfl | rfl | hy
   · exact oneW_mem h2 hy
   · decide
   · rw [h3.kG];decide
   · exact oneW_mem h4 hy
 · intro g t h;cases h
theorem ret_i {r:CRet} (h:VerL r.lo∧VerL r.hi∧WhyL r.why):PlI rtW (retI r):=by
 obtain ⟨h1,h2,_⟩:=h
 have k1:=h1.nice.kG
 have k2:=h2.nice.kG
 unfold retI
 split
 · refine ⟨⟨LineC.ret1 _ h1,?_,?_,?_,?_⟩,rfl,LineC.reqN _ (by simp [Itm.words])⟩
   · show kG r.lo≠41;rw [k1];decide
   · show kG r.lo≠40;rw [k1];decide
   · intro y hy;cases hy
   · intro g t h;cases h
 · refine ⟨⟨LineC.ret2 _ _ h1 h2,(show kG [91]≠41 by decide),(show kG [91]≠40 by decide),?_,?_⟩,rfl,LineC.reqN _ (by simp [Itm.words])⟩
   · intro y hy
     simp only [List.mem_cons,List.not_mem_nil,or_false] at hy
     rcases hy with rfl | rfl | rfl | rfl
     · show kG r.lo≠40;rw [k1];decide
     · decide
     · show kG r.hi≠40;rw [k2];decide
     · decide
   · intro g t h;cases h
theorem tool_i {p:List UInt8} (h:NiceL p):PlI toW (pthI p):=by
 refine ⟨⟨LineC.tool _ h,?_,?_,?_,?_⟩,rfl,LineC.reqN _ (by simp [Itm.words,pthI])⟩
 · show kG p≠41;rw [h.kG];decide
 · show kG p≠40;rw [h.kG];decide
 · intro y hy;cases hy
 · intro g t h;cases h
theorem ign_i {p:List UInt8} (h:NiceL p):PlI igW (pthI p):=by
 refine ⟨⟨LineC.ign _ h,?_,?_,?_,?_⟩,rfl,LineC.reqN _ (by simp [Itm.words,pthI])⟩
 · show kG p≠41;rw [h.kG];decide
 · show kG p≠40;rw [h.kG];decide
 · intro y hy;cases hy
 · intro g t h;cases h
structure TailC (tv tp:List UInt8):Prop where
 c:LineC tv [tp]
 sw:LineC rqW [tv,tp]
 k:kG tp≠40
 k2:kG tv≠41
section
variable {T:List UInt8} {tv tp:List UInt8}
def RC (T:List UInt8) (ds:List Dl) (tl:StT):Prop:=ReadsP T ds (PP tl)∧BodyQ T ds (Q2 T)
theorem rc_class {ds:List Dl} {tl:StT} (h:ReadsP T ds (PP tl)):ReadsP T ds (fun ss b=>∀ s ∈ ss,ClassS s):=h.mono (fun _ _ h=>h.1)
theorem rc_sec {ds:List Dl} {tl:StT} {v:List UInt8} {is:List Itm} (hi:∀ i ∈ is,PlI v i) (hv:BlockV v) (hk:kG v=-3) (hw:Wrd v) (h:RC T ds tl):RC T (secB v is++ds) tl :=
 ⟨reads_secB (fun i hm=>⟨(hi i hm).c,(hi i hm).com⟩) hv hk h.1,sw_sec (fun i hm=>⟨(hi i hm).sw,(hi i hm).c.h41,(hi i hm).com⟩) (LineC.reqV _ _ hw (Or.inr (Or.inl rfl)) (Or.inl (by decide))) (by rw [hk];decide) h.2 (rc_class h.1)⟩
theorem nice_w:∀ v,v=exW∨v=rpW∨v=rtW∨v=toW∨v=igW→Wrd v:=by
 intro v hv
 refine Or.inl (nice_of v ?_ ?_ ?_) <;> rcases hv with rfl | rfl | rfl | rfl | rfl <;> decide
theorem map_pl {α:Type} {v:List UInt8} {f:α→Itm} {l:List α} (h:∀ x ∈ l,PlI v (f x)):∀ i ∈ l.map f,PlI v i:=fun i hi=>by
 obtain ⟨x,hx,rfl⟩:=List.mem_map.1 hi
 exact h x hx
theorem reads_body (c:Cont) (blk:Bool) (hc:ContF c) (ht:TailC tv tp):ReadsP T (bodyOf c blk++[wordL tv tp]) (PP (.line tv [tp])):=by
 have h0:ReadsP T [wordL tv tp] (PP (.line tv [tp])):=reads_tail ht.k ht.c
 have p1:=map_pl (f:=excI) (fun r hr=>exc_i (hc.excs r hr))
 have p2:=map_pl (f:=repI) (fun r hr=>rep_i (hc.reps r hr))
 have p3:=map_pl (f:=retI) (fun r hr=>ret_i (hc.rets r hr))
 have p4:=map_pl (f:=pthI) (fun r hr=>tool_i (hc.tools r hr))
 have p5:=map_pl (f:=pthI) (fun r hr=>ign_i (hc.igns r hr))
 have p0:∀ i ∈ c.reqs.map reqI,ReqI i:=fun i hi=>by
   obtain ⟨x,hx,rfl⟩:=List.mem_map.1 hi
   exact req_i (hc.reqs x hx)
 unfold bodyOf
 simp only [List.append_assoc]
 cases blk with
 | false =>
   simp only [secD,Bool.false_eq_true,if_false]
   exact reads_secN (fun i h=>(p0 i h).c) (reads_secN (fun i h=>(p1 i h).c) (reads_secN (fun i h=>(p2 i h).c) (reads_secN (fun i h=>(p3 i h).c) (reads_secN (fun i h=>(p4 i h).c) (reads_secN (fun i h=>(p5 i h).c) h0)))))
 | true =>
   simp only [secD,if_true]
   have r0:RC T [wordL tv tp] (.line tv [tp]):=⟨h0,sw_tail ht.k2 ht.sw⟩
   have r1:=rc_sec p1 (by simp [BlockV]) (by decide) (nice_w _ (by simp)) (rc_sec p2 (by simp [BlockV]) (by decide) (nice_w _ (by simp)) (rc_sec p3 (by simp [BlockV]) (by decide) (nice_w _ (by simp)) (rc_sec p4 (by simp [BlockV]) (by decide) (nice_w _ (by simp)) (rc_sec p5 (by simp [BlockV]) (by decide) (nice_w _ (by simp)) r0))))
   exact reads_secR p0 r1.2 r1.1
theorem reads_wordL {ds:List Dl} {v p:List UInt8} {Q:List StT→Bool→Prop} (hp:kG p≠40) (h:ReadsP T ds Q):ReadsP T (wordL v p :: blank :: ds) (fun ss b=>∃ ss',ss=.line v [p] :: ss'∧Q ss' b) :=
 ReadsP.line (d:=wordL v p) rfl (by intro y hy;obtain rfl:=List.mem_singleton.1 hy;exact hp) rfl (ReadsP.blank (d:=blank) rfl rfl h)
theorem reads_doc (c:Cont) (blk:Bool) (hc:ContF c) (ht:TailC tv tp) :
   ReadsP T (docOf c blk tv tp) (fun ss b=>∃ s1 s2,ss=.line moW [c.mod] :: (s1++s2)∧s1=(if c.go=[] then [] else [.line goW [c.go]])∧PP (.line tv [tp]) s2 b):=by
 have hb:=reads_body (T:=T) c blk hc ht
 have h1:ReadsP T (optL tcW c.tc++(bodyOf c blk++[wordL tv tp])) (PP (.line tv [tp])):=by
   unfold optL
   split
   · exact hb
   · rename_i hne
     have hn:NiceL c.tc:=hc.tc.resolve_left hne
     refine (reads_wordL (by rw [hn.kG];decide) hb).mono ?_
     rintro ss b ⟨ss',rfl,hp⟩
     exact hp.cons (LineC.chain _ hn)
 have h2:ReadsP T (optL goW c.go++(optL tcW c.tc++(bodyOf c blk++[wordL tv tp]))) (fun ss b=>∃ s1 s2,ss=s1++s2∧s1=(if c.go=[] then [] else [.line goW [c.go]])∧PP (.line tv [tp]) s2 b):=by
   unfold optL
   split
   · rename_i he
     exact h1.mono (fun ss b hp=>⟨[],ss,rfl,by simp,hp⟩)
   · rename_i hne
     have hn:NiceL c.go:=hc.go.resolve_left hne
     refine (reads_wordL (by rw [hn.kG];decide) h1).mono ?_
     rintro ss b ⟨ss',rfl,hp⟩
     exact ⟨_,ss',rfl,rfl,hp⟩
 refine (reads_wordL (by rw [(pathF_nice hc.mod).kG];decide) h2).mono ?_
 rintro ss b ⟨ss',rfl,s1,s2,rfl,e,hp⟩
 exact ⟨s1,s2,rfl,e,hp⟩
theorem tail_mod {p:List UInt8} (h:PathF (mkS p)):TailC moW p:=by
 have hn:=pathF_nice h
 refine ⟨LineC.module _ h,LineC.reqV _ _ (Or.inl (nice_of _ (by decide) (by decide) (by decide))) (Or.inl hn) ?_,by rw [hn.kG];decide,by decide⟩
 have e:bsl (mkS p)=p:=rfl
 have hl:(mkS p).size=p.length:=by rw [← bsl_len,e]
 rcases Nat.lt_or_ge 1 p.length with h1 | h1
 · right
   have:=h.chars 1 (by omega)
   rw [bt_ch,e] at this
   simp only [pch,letB,Bool.or_eq_true,decide_eq_true_eq,beq_iff_eq] at this
   simp only [digB,decide_eq_false_iff_not]
   omega
 · right
   have:ch p 1=0:=by simp [ch,List.getD_eq_getElem?_getD,List.getElem?_eq_none h1]
   rw [this];rfl
theorem tail_go {v:List UInt8} (h:NiceL v) (h0:ch v 0≠118):TailC goW v :=
 ⟨LineC.go _ h,LineC.reqV _ _ (Or.inl (nice_of _ (by decide) (by decide) (by decide))) (Or.inl h) (Or.inl h0),by rw [h.kG];decide,by decide⟩
end
end
end Go.Proofs.YtifkpibjeamfkaaGreatFmt
