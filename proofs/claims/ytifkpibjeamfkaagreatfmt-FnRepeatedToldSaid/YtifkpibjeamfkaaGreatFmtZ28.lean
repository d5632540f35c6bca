/-
  Documents with comments: their text; their tokens over any table of white space.
  How a document with comments is read: statements, blocks, lines that are joined by a comment.
-/
import Derived.Test.YtifkpibjeamfkaaGreatFmtZ14
import Derived.Test.YtifkpibjeamfkaaGreatFmtZ22
set_option linter.unusedVariables false
set_option linter.unusedSimpArgs false
set_option maxRecDepth 100000
namespace Go.Proofs.YtifkpibjeamfkaaGreatFmt
section
open Go.RowKit Go.Proofs
structure Wt where
 g:List UInt8
 u:List UInt8
def Wt.txt (x:Wt):List UInt8:=x.g++x.u
def wsTxt (l:List Wt):List UInt8:=l.flatMap Wt.txt
structure Dl where
 ws:List Wt
 com:Option (List UInt8 × List UInt8)
def endTxt:Option (List UInt8 × List UInt8)→List UInt8
 | none=>[10]
 | some (g,t)=>g++(t++[10])
def Dl.txt (d:Dl):List UInt8:=wsTxt d.ws++endTxt d.com
def docG (ds:List Dl):List UInt8:=ds.flatMap Dl.txt
def kG (u:List UInt8):Int:=if u.length=1∧(ch u 0=40∨ch u 0=41∨ch u 0=91∨ch u 0=93∨ch u 0=44) then (ch u 0:Nat) else -3
def PunW (u:List UInt8):Prop:=u.length=1∧(ch u 0=40∨ch u 0=41∨ch u 0=91∨ch u 0=93∨ch u 0=44)
def WdG (u:List UInt8):Prop:=IdW u∨PunW u
theorem WdG.pos {u:List UInt8} (h:WdG u):0 < u.length:=by
 rcases h with h | h
 · exact h.pos
 · rw [h.1];omega
theorem kG_id {u:List UInt8} (h:IdW u):kG u=-3:=by
 unfold kG
 rw [if_neg]
 rintro ⟨_,h2⟩
 have:=(h.chars 0 h.pos).1
 simp only [idB,decide_eq_true_eq] at this
 omega
theorem kG_pun {u:List UInt8} (h:PunW u):kG u=(ch u 0:Nat):=if_pos h
def Bl (g:List UInt8):Prop:=∀ i,i < g.length→ch g i=32∨ch g i=9
def SepG (B:List UInt8):Prop:=0 < B.length∧idB (ch B 0)=false
def WsOk:List Wt→List UInt8→Prop
 | [],_=>True
 | x :: r,B=>WdG x.u∧Bl x.g∧(kG x.u=-3→SepG (wsTxt r++B))∧WsOk r B
structure ComOk (g t:List UInt8):Prop where
 bl:Bl g
 h2:2≤t.length
 c0:ch t 0=47
 c1:ch t 1=47
 body:∀ i,i < t.length→ch t i≠10∧ch t i≠13
structure Dl.ok (d:Dl):Prop where
 ws:WsOk d.ws (endTxt d.com)
 com:∀ g t,d.com=some (g,t)→ComOk g t
def EndOk (T:List UInt8) (c:Option (List UInt8 × List UInt8)) (S:Prop) (e:Tk):Prop :=
 match c with
 | none=>e.k=10
 | some (g,t)=>(e.k=-2∨e.k=-5)∧tkTxt T e=t∧(S→g=[]→e.k=-5)
theorem EndOk.mono {T:List UInt8} {c:Option (List UInt8 × List UInt8)} {S S':Prop} {e:Tk} (h:EndOk T c S e) (hs:S'→S):EndOk T c S' e:=by
 match c,h with
 | none,h=>exact h
 | some (g,t),h=>exact ⟨h.1,h.2.1,fun x=>h.2.2 (hs x)⟩
structure PlOf (T:List UInt8) (d:Dl) (l:List Tk × Tk):Prop where
 ks:l.1.map Tk.k=d.ws.map (fun x=>kG x.u)
 ts:l.1.map (tkTxt T)=d.ws.map Wt.u
 en:EndOk T d.com (d.ws=[]) l.2
inductive PlsOf (T:List UInt8):List Dl→List (List Tk × Tk)→Prop
 | nil:PlsOf T [] []
 | cons {d:Dl} {l:List Tk × Tk} {ds:List Dl} {ls:List (List Tk × Tk)} (h:PlOf T d l) (k:PlsOf T ds ls):PlsOf T (d :: ds) (l :: ls)
def plsT (ls:List (List Tk × Tk)):List Tk:=ls.flatMap (fun l=>l.1++[l.2])
def ToksG (f:Nat→Int) (T:List UInt8) (p:Nat):List Tk→Prop
 | []=>True
 | t :: ts=>TokG f T p t∧ChainG f T t ts
theorem ToksG.chain {f:Nat→Int} {T:List UInt8} {t:Tk} {ts:List Tk} (h:ToksG f T t.e ts):ChainG f T t ts:=by
 cases ts with
 | nil=>trivial
 | cons u us=>exact h
theorem noCom_midG {A u B:List UInt8} (hB:SepG B) {i:Nat} (hi:i < u.length) (h:noCom u i):noCom (A++(u++B)) (A.length+i):=by
 unfold noCom at h ⊢
 rw [ch_mid _ _ _ _ hi]
 rcases Nat.lt_or_ge (i+1) u.length with h1 | h1
 · rw [show A.length+i+1=A.length+(i+1) from by omega,ch_mid _ _ _ _ h1]
   exact ⟨fun ⟨_,b,c⟩=>h.1 ⟨h1,b,c⟩,fun ⟨_,b,c⟩=>h.2 ⟨h1,b,c⟩⟩
 · rw [show A.length+i+1=A.length+u.length from by omega,ch_next]
   have h2:=hB.2
   exact ⟨fun ⟨_,b,c⟩=>by rw [c] at h2;simp [idB] at h2,fun ⟨_,b,c⟩=>by rw [c] at h2;simp [idB] at h2⟩
theorem tok_wordG (f:Nat→Int) (A u B:List UInt8) (p:Nat) (hu:WdG u) (hB:kG u=-3→SepG B) (hp:p≤A.length) (hw:Ws (A++(u++B)) p A.length):TokG f (A++(u++B)) p ⟨kG u,A.length,A.length+u.length⟩:=by
 have hpos:=hu.pos
 rcases hu with hu | hu
 · have hB:=hB (kG_id hu)
   rw [kG_id hu]
   refine .id _ _ hp (by omega) (by simp only [List.length_append];omega) hw (fun i h1 h2=>?_) ?_ ?_ (Or.inr (Or.inl ⟨?_,?_⟩))
   · obtain ⟨j,rfl⟩:∃ j,i=A.length+j:=⟨i - A.length,by omega⟩
     have hj:j < u.length:=by omega
     have hc:=hu.chars j hj
     exact ⟨by rw [ch_mid _ _ _ _ hj];exact hc.1,noCom_midG hB hj hc.2⟩
   · have:=ch_mid A u B 0 hpos;rw [Nat.add_zero] at this;rw [this];exact hu.q1
   · have:=ch_mid A u B 0 hpos;rw [Nat.add_zero] at this;rw [this];exact hu.q2
   · have:=hB.1;simp;omega
   · rw [ch_next];exact hB.2
 · rw [kG_pun hu,hu.1]
   refine .pun _ _ ?_ hp (by simp;omega) hw ?_
   · rcases hu.2 with h | h | h | h | h <;> omega
   · have:=ch_mid A u B 0 hpos;rwa [Nat.add_zero] at this
theorem Ws.bl {A g B:List UInt8} (h:Bl g):Ws (A++(g++B)) A.length (A.length+g.length):=by
 intro i h1 h2
 obtain ⟨j,rfl⟩:∃ j,i=A.length+j:=⟨i - A.length,by omega⟩
 rw [ch_mid _ _ _ _ (by omega)]
 exact h j (by omega)
theorem Ws.trans {T:List UInt8} {p q r:Nat} (h:Ws T p q) (k:Ws T q r):Ws T p r:=fun i h1 h2=>by
 rcases Nat.lt_or_ge i q with h3 | h3
 · exact h i h1 h3
 · exact k i h3 h2
def LineSt (A:List UInt8):Prop:=A=[]∨ch A (A.length - 1)=10
theorem lineS_start {A:List UInt8} (B:List UInt8) (h:LineSt A):lineS (A++B) A.length=A.length:=by
 rcases h with rfl | h
 · rfl
 · unfold lineS
   rcases Nat.eq_zero_or_pos A.length with h0 | h0
   · rw [h0];rfl
   · obtain ⟨n,hn⟩:∃ n,A.length=n+1:=⟨A.length - 1,by omega⟩
     rw [hn] at h ⊢
     have:ch (A++B) n=10:=by rw [ch_left _ _ _ (by omega)];simpa using h
     simp only [lastNL,this,if_true]
     omega
theorem not_suf {A:List UInt8} (f:Nat→Int) (B:List UInt8) (h:LineSt A):¬ isSuf f (A++B) A.length:=by
 rintro ⟨j,hj,_⟩
 rw [lineS_start B h] at hj
 omega
theorem end_tok (f:Nat→Int) (c:Option (List UInt8 × List UInt8)) (A R:List UInt8) (p:Nat) (hc:∀ g t,c=some (g,t)→ComOk g t) (hp:p≤A.length) (hw:Ws (A++(endTxt c++R)) p A.length) :
   ∃ e,TokG f (A++(endTxt c++R)) p e∧e.e=A.length+(endTxt c).length∧EndOk (A++(endTxt c++R)) c (LineSt A) e:=by
 match c,hc with
 | none,_ =>
   refine ⟨⟨(10:Nat),A.length,A.length+1⟩,.pun 10 _ (Or.inl rfl) hp (by simp [endTxt]) hw ?_,by simp [endTxt],rfl⟩
   have:=ch_right A ([10]++R) 0
   rw [Nat.add_zero] at this
   exact this
 | some (g,t),hc =>
   have h:=hc g t rfl
   have e1:A++(endTxt (some (g,t))++R)=(A++g)++(t++([10]++R)):=by simp [endTxt]
   have e2:(A++g).length=A.length+g.length:=by simp
   have hw2:Ws (A++(endTxt (some (g,t))++R)) A.length (A.length+g.length):=by
     have e3:A++(endTxt (some (g,t))++R)=A++(g++(t++([10]++R))):=by simp [endTxt]
     rw [e3];exact Ws.bl h.bl
   have hw3:=hw.trans hw2
   have hlen:(endTxt (some (g,t))).length=g.length+t.length+1:=by simp [endTxt];omega
   rw [hlen]
   rw [e1] at hw3 ⊢
   rw [← e2] at hw3
   have hb:ComB ((A++g)++(t++([10]++R))) (A++g).length ((A++g).length+t.length+1):=by
     refine ⟨by have:=h.h2;omega,by simp;omega,?_,?_,fun i h1 h2=>?_,?_,?_⟩
     · have:=ch_mid (A++g) t ([10]++R) 0 (by have:=h.h2;omega);rw [Nat.add_zero] at this;rw [this];exact h.c0
     · rw [ch_mid (A++g) t ([10]++R) 1 (by have:=h.h2;omega)];exact h.c1
     · obtain ⟨j,rfl⟩:∃ j,i=(A++g).length+j:=⟨i - (A++g).length,by omega⟩
       rw [ch_mid _ _ _ _ (by omega)]
       exact (h.body j (by omega)).1
     · rw [show (A++g).length+t.length+1 - 1=(A++g).length+t.length from by omega,ch_next];rfl
     · have:=h.h2
       rw [show (A++g).length+t.length+1 - 2=(A++g).length+(t.length - 1) from by omega,ch_mid _ _ _ _ (by omega)]
       exact (h.body _ (by omega)).2
   have hseg:∀ k:Int,k=-5∨k=-2→tkTxt ((A++g)++(t++([10]++R))) ⟨k,(A++g).length,(A++g).length+t.length+1⟩=t:=by
     intro k hk
     unfold tkTxt
     rw [if_pos hk]
     show seg _ _ ((A++g).length+t.length+1 - 1)=t
     rw [show (A++g).length+t.length+1 - 1=(A++g).length+t.length from by omega]
     exact seg_mid _ _ _
   by_cases hs:isSuf f ((A++g)++(t++([10]++R))) (A++g).length
   · refine ⟨⟨-2,(A++g).length,(A++g).length+t.length+1⟩,.suf _ _ (by rw [e2];omega) hw3 hb hs,by simp;omega,Or.inl rfl,hseg _ (Or.inr rfl),fun hA hg=>?_⟩
     subst hg
     rw [List.append_nil] at hs
     exact absurd hs (not_suf f _ hA)
   · exact ⟨⟨-5,(A++g).length,(A++g).length+t.length+1⟩,.com _ _ (by rw [e2];omega) hw3 hb hs,by simp;omega,Or.inr rfl,hseg _ (Or.inl rfl),fun _ _=>rfl⟩
theorem line_toksG (f:Nat→Int) (c:Option (List UInt8 × List UInt8)) (hc:∀ g t,c=some (g,t)→ComOk g t) (l:List Wt):∀ (A R:List UInt8) (p:Nat),WsOk l (endTxt c)→p≤A.length→Ws (A++(wsTxt l++(endTxt c++R))) p A.length →
   ∃ ws e,ws.map Tk.k=l.map (fun x=>kG x.u)∧ws.map (tkTxt (A++(wsTxt l++(endTxt c++R))))=l.map Wt.u∧EndOk (A++(wsTxt l++(endTxt c++R))) c (l=[]∧LineSt A) e ∧
     ∀ rest,ToksG f (A++(wsTxt l++(endTxt c++R))) (A.length+(wsTxt l).length+(endTxt c).length) rest→ToksG f (A++(wsTxt l++(endTxt c++R))) p (ws++e :: rest):=by
 induction l with
 | nil =>
   intro A R p _ hp hw
   obtain ⟨e,h1,h2,h3⟩:=end_tok f c A R p hc hp hw
   refine ⟨[],e,rfl,rfl,h3.mono (fun x=>x.2),fun rest hr=>⟨h1,ToksG.chain ?_⟩⟩
   · rw [h2]
     simpa [wsTxt] using hr
 | cons x xs ih =>
   intro A R p hok hp hw
   obtain ⟨hu,hg,hs,hok'⟩:=hok
   have e1:A++(wsTxt (x :: xs)++(endTxt c++R))=(A++x.g)++(x.u++(wsTxt xs++(endTxt c++R))):=by simp [wsTxt,Wt.txt]
   have e1':A++(wsTxt (x :: xs)++(endTxt c++R))=A++(x.g++(x.u++(wsTxt xs++(endTxt c++R)))):=by simp [wsTxt,Wt.txt]
   have e2:(A++x.g).length=A.length+x.g.length:=by simp
   have e3:A++(wsTxt (x :: xs)++(endTxt c++R))=(A++x.txt)++(wsTxt xs++(endTxt c++R)):=by simp [wsTxt,Wt.txt]
   have e4:(A++x.txt).length=A.length+x.g.length+x.u.length:=by simp [Wt.txt];omega
   have e5:A.length+(wsTxt (x :: xs)).length=(A++x.txt).length+(wsTxt xs).length:=by simp [wsTxt];omega
   have hwg:Ws (A++(wsTxt (x :: xs)++(endTxt c++R))) A.length (A.length+x.g.length):=by rw [e1'];exact Ws.bl hg
   have hw2:=hw.trans hwg
   have htok:=tok_wordG f (A++x.g) x.u (wsTxt xs++(endTxt c++R)) p hu (fun hk=>by
     have:=hs hk
     refine ⟨by have:=this.1;simp at this ⊢;omega,?_⟩
     rw [← List.append_assoc,ch_left _ _ _ this.1]
     exact this.2) (by rw [e2];omega) (by rw [← e1,e2];exact hw2)
   obtain ⟨ws,e,k1,k2,k3,k4⟩:=ih (A++x.txt) R (A++x.txt).length hok' (Nat.le_refl _) (Ws.refl _ _)
   rw [e5,e3]
   refine ⟨⟨kG x.u,(A++x.g).length,(A++x.g).length+x.u.length⟩ :: ws,e,by simp [k1],?_,?_,fun rest hr=>?_⟩
   · rw [List.map_cons,List.map_cons,k2]
     congr 1
     rw [← e3,e1,tkTxt_word]
     · exact seg_mid _ _ _
     · show kG x.u≠-5
       unfold kG;split <;> omega
     · show kG x.u≠-2
       unfold kG;split <;> omega
   · exact k3.mono (fun h=>by cases h.1)
   · refine ⟨?_,ToksG.chain ?_⟩
     · rw [← e3,e1];exact htok
     · have:=k4 rest hr
       rw [show (A++x.txt).length=(A++x.g).length+x.u.length from by rw [e4,e2]] at this
       exact this
theorem endTxt_last (c:Option (List UInt8 × List UInt8)):∃ a,endTxt c=a++[10]:=by
 match c with
 | none=>exact ⟨[],rfl⟩
 | some (g,t)=>exact ⟨g++t,by simp [endTxt]⟩
theorem LineSt.line (A:List UInt8) (d:Dl):LineSt (A++d.txt):=by
 obtain ⟨a,ha⟩:=endTxt_last d.com
 right
 have e:A++d.txt=(A++wsTxt d.ws++a)++[10]:=by simp [Dl.txt,ha]
 rw [e]
 have:=ch_right (A++wsTxt d.ws++a) [10] 0
 rw [Nat.add_zero] at this
 rw [List.length_append,List.length_singleton,Nat.add_sub_cancel,this]
 rfl
theorem doc_toksG (f:Nat→Int) (ds:List Dl):∀ (A:List UInt8),(∀ d ∈ ds,d.ok)→LineSt A →
   ∃ ls,PlsOf (A++docG ds) ds ls∧ToksG f (A++docG ds) A.length (plsT ls++[⟨-1,(A++docG ds).length,(A++docG ds).length⟩]):=by
 induction ds with
 | nil =>
   intro A _ _
   refine ⟨[],.nil,?_,trivial⟩
   exact .eof (by simp) (by simp [docG];exact Ws.refl _ _)
 | cons d ds ih =>
   intro A hok hA
   obtain ⟨ls,h1,h2⟩:=ih (A++d.txt) (fun x hx=>hok x (List.mem_cons_of_mem _ hx)) (LineSt.line A d)
   have e1:(A++d.txt)++docG ds=A++docG (d :: ds):=by simp [docG]
   have e2:A++docG (d :: ds)=A++(wsTxt d.ws++(endTxt d.com++docG ds)):=by simp [docG,Dl.txt]
   have hd:=hok d (List.mem_cons_self ..)
   obtain ⟨ws,e,k1,k2,k3,k4⟩:=line_toksG f d.com hd.com d.ws A (docG ds) A.length hd.ws (Nat.le_refl _) (Ws.refl _ _)
   rw [e1] at h1 h2
   rw [← e2] at k2 k3 k4
   refine ⟨(ws,e) :: ls,.cons ⟨k1,k2,k3.mono (fun h=>⟨h,hA⟩)⟩ h1,?_⟩
   · have:=k4 (plsT ls++[⟨-1,(A++docG (d :: ds)).length,(A++docG (d :: ds)).length⟩]) (by
       have e3:(A++d.txt).length=A.length+(wsTxt d.ws).length+(endTxt d.com).length:=by simp [Dl.txt];omega
       rw [← e3];exact h2)
     simpa [plsT] using this
end
section
open Go.RowKit Go.Proofs
inductive StT
 | line (v:List UInt8) (a:List (List UInt8))
 | block (v:List UInt8) (a:List (List UInt8)) (ls:List (List (List UInt8)))
def lnT (T:List UInt8) (l:Tk × List Tk):List (List UInt8):=tkTxt T l.1 :: l.2.map (tkTxt T)
def Stm.tx (T:List UInt8):Stm→StT
 | .line t ts=>.line (tkTxt T t) (ts.map (tkTxt T))
 | .block t ts ls=>.block (tkTxt T t) (ts.map (tkTxt T)) (ls.map (lnT T))
theorem kG_vals (u:List UInt8):kG u=-3∨kG u=40∨kG u=41∨kG u=91∨kG u=93∨kG u=44:=by
 unfold kG
 split
 · rename_i h
   rcases h.2 with h | h | h | h | h <;> rw [h] <;> simp
 · exact Or.inl rfl
theorem PlOf.mem {T:List UInt8} {d:Dl} {l:List Tk × Tk} (h:PlOf T d l) {t:Tk} (ht:t ∈ l.1):∃ x ∈ d.ws,t.k=kG x.u:=by
 have h1:t.k ∈ l.1.map Tk.k:=List.mem_map_of_mem ht
 rw [h.ks] at h1
 obtain ⟨x,hx,e⟩:=List.mem_map.1 h1
 exact ⟨x,hx,e.symm⟩
theorem kG_non {t:Tk} {u:List UInt8} (e:t.k=kG u):NonE t∧t.k≠-5:=by
 rcases kG_vals u with h | h | h | h | h | h <;> rw [h] at e <;> exact ⟨⟨by omega,by omega,by omega⟩,by omega⟩
theorem PlOf.non {T:List UInt8} {d:Dl} {l:List Tk × Tk} (h:PlOf T d l) {t:Tk} (ht:t ∈ l.1):NonE t∧t.k≠-5:=by
 obtain ⟨x,_,e⟩:=h.mem ht
 exact kG_non e
theorem PlOf.enk {T:List UInt8} {d:Dl} {l:List Tk × Tk} (h:PlOf T d l):l.2.k=10∨l.2.k=-2∨l.2.k=-5:=by
 have:=h.en
 match hc:d.com with
 | none=>rw [hc] at this;exact Or.inl this
 | some (g,t)=>rw [hc] at this;exact Or.inr this.1
theorem PlOf.nl {T:List UInt8} {d:Dl} {l:List Tk × Tk} (h:PlOf T d l) (hc:d.com=none):l.2.k=10:=by
 have:=h.en
 rw [hc] at this
 exact this
theorem PlOf.com {T:List UInt8} {d:Dl} {l:List Tk × Tk} {g t:List UInt8} (h:PlOf T d l) (hc:d.com=some (g,t)):(l.2.k=-2∨l.2.k=-5)∧tkTxt T l.2=t∧(d.ws=[]→g=[]→l.2.k=-5):=by
 have:=h.en
 rw [hc] at this
 exact this
theorem PlOf.words {T:List UInt8} {d:Dl} {l:List Tk × Tk} (h:PlOf T d l) {x:Wt} {xs:List Wt} (hw:d.ws=x :: xs):∃ t ts,l.1=t :: ts∧t.k=kG x.u∧tkTxt T t=x.u∧ts.map Tk.k=xs.map (fun x=>kG x.u)∧ts.map (tkTxt T)=xs.map Wt.u:=by
 have h1:=h.ks
 have h2:=h.ts
 rw [hw] at h1 h2
 match hl:l.1 with
 | []=>rw [hl] at h1;cases h1
 | t :: ts =>
   rw [hl] at h1 h2
   simp only [List.map_cons,List.cons.injEq] at h1 h2
   exact ⟨t,ts,rfl,h1.1,h2.1,h1.2,h2.2⟩
theorem PlOf.none {T:List UInt8} {d:Dl} {l:List Tk × Tk} (h:PlOf T d l) (hw:d.ws=[]):l.1=[]:=by
 have h1:=h.ks
 rw [hw] at h1
 simpa using h1
theorem plsT_cons (l:List Tk × Tk) (ls:List (List Tk × Tk)) (r:List Tk):plsT (l :: ls)++r=l.1++(l.2 :: (plsT ls++r)):=by simp [plsT]
def ReadsP (T:List UInt8) (ds:List Dl) (Q:List StT→Bool→Prop):Prop :=
 ∀ ls en,PlsOf T ds ls→en.k=-1→∃ st b,FileP (plsT ls++[en]) st b∧Q (st.map (Stm.tx T)) b
def BodyQ (T:List UInt8) (ds:List Dl) (Q:List (List (List UInt8))→Option (List Dl)→Prop):Prop :=
 ∀ ls en,PlsOf T ds ls→en.k=-1→∃ bl r rd,Body (plsT ls++[en]) bl r∧Q (bl.map (lnT T)) rd ∧
   ((r=none∧rd=none)∨∃ ds' ls',rd=some ds'∧PlsOf T ds' ls'∧r=some (plsT ls'++[en]))
def JoinQ (T:List UInt8) (acc:List (List UInt8)) (ds:List Dl) (Q:List (List (List UInt8))→Option (List Dl)→Prop):Prop :=
 ∀ ls en c pre,PlsOf T ds ls→en.k=-1→NonE c→c.k≠-5→c.k≠41→(∀ u ∈ pre,NonE u)→lnT T (c,pre)=acc →
   ∃ bl r rd,Body (c :: (pre++(plsT ls++[en]))) bl r∧Q (bl.map (lnT T)) rd ∧
   ((r=none∧rd=none)∨∃ ds' ls',rd=some ds'∧PlsOf T ds' ls'∧r=some (plsT ls'++[en]))
section
variable {T:List UInt8} {ds:List Dl} {d:Dl}
theorem ReadsP.mono {Q Q':List StT→Bool→Prop} (h:ReadsP T ds Q) (hq:∀ ss b,Q ss b→Q' ss b):ReadsP T ds Q':=fun ls en hl he=>by
 obtain ⟨st,b,h1,h2⟩:=h ls en hl he
 exact ⟨st,b,h1,hq _ _ h2⟩
theorem BodyQ.mono {Q Q':List (List (List UInt8))→Option (List Dl)→Prop} (h:BodyQ T ds Q) (hq:∀ bl r,Q bl r→Q' bl r):BodyQ T ds Q':=fun ls en hl he=>by
 obtain ⟨bl,r,rd,h1,h2,h3⟩:=h ls en hl he
 exact ⟨bl,r,rd,h1,hq _ _ h2,h3⟩
theorem JoinQ.mono {acc:List (List UInt8)} {Q Q':List (List (List UInt8))→Option (List Dl)→Prop} (h:JoinQ T acc ds Q) (hq:∀ bl r,Q bl r→Q' bl r):JoinQ T acc ds Q':=fun ls en c pre hl he h1 h2 h3 h4 h5=>by
 obtain ⟨bl,r,rd,k1,k2,k3⟩:=h ls en c pre hl he h1 h2 h3 h4 h5
 exact ⟨bl,r,rd,k1,hq _ _ k2,k3⟩
theorem BodyQ.nil:BodyQ T [] (fun bl r=>bl=[]∧r=none):=by
 intro ls en hl he
 cases hl
 exact ⟨[],none,none,.eof en he,⟨rfl,rfl⟩,Or.inl ⟨rfl,rfl⟩⟩
theorem BodyQ.skip {Q:List (List (List UInt8))→Option (List Dl)→Prop} (hw:d.ws=[]) (h:BodyQ T ds Q):BodyQ T (d :: ds) Q:=by
 intro ls en hl he
 cases hl with
 | cons hp hk =>
   rename_i l ls
   obtain ⟨bl,r,rd,h1,h2,h3⟩:=h ls en hk he
   rw [plsT_cons,hp.none hw,List.nil_append]
   exact ⟨bl,r,rd,.skip _ _ _ _ (by rcases hp.enk with h | h | h <;> simp [h]) h1,h2,h3⟩
theorem BodyQ.close {x:Wt} (hw:d.ws=[x]) (hk:kG x.u=41) (hc:d.com=none):BodyQ T (d :: ds) (fun bl r=>bl=[]∧r=some ds):=by
 intro ls en hl he
 cases hl with
 | cons hp hk2 =>
   rename_i l ls
   obtain ⟨t,ts,e1,e2,e3,e4,e5⟩:=hp.words hw
   obtain rfl:ts=[]:=by simpa using e4
   rw [plsT_cons,e1]
   obtain ⟨u,us,hu⟩:∃ u us,plsT ls++[en]=u :: us:=by
     cases h:plsT ls++[en] with
     | nil=>simp at h
     | cons u us=>exact ⟨u,us,rfl⟩
   rw [hu]
   refine ⟨[],_,some ds,.close t l.2 u us (by rw [e2,hk]) (Or.inl (hp.nl hc)),⟨rfl,rfl⟩,Or.inr ⟨ds,ls,rfl,hk2,by rw [hu]⟩⟩
theorem JoinQ.line {acc:List (List UInt8)} {Q:List (List (List UInt8))→Option (List Dl)→Prop} (hc:d.com=none) (h:BodyQ T ds Q):JoinQ T acc (d :: ds) (fun bl r=>∃ bl',bl=(acc++d.ws.map Wt.u) :: bl'∧Q bl' r):=by
 intro ls en c pre hl he n1 n2 n3 n4 e
 cases hl with
 | cons hp hk =>
   rename_i l ls
   obtain ⟨bl,r,rd,h1,h2,h3⟩:=h ls en hk he
   rw [plsT_cons]
   refine ⟨(c,pre++l.1) :: bl,r,rd,?_,⟨_,?_,h2⟩,h3⟩
   · have:=Body.line c (pre++l.1) l.2 (plsT ls++[en]) bl r n1 n2 n3 (fun u hu=>by
       rcases List.mem_append.1 hu with hu | hu
       · exact n4 u hu
       · exact (hp.non hu).1) (Or.inl (hp.nl hc)) h1
     simpa using this
   · subst e
     simp [lnT,hp.ts]
theorem JoinQ.com {acc:List (List UInt8)} {g t:List UInt8} {Q Q':List (List (List UInt8))→Option (List Dl)→Prop} (hc:d.com=some (g,t)) (h:BodyQ T ds Q) (h':JoinQ T (acc++d.ws.map Wt.u++[t]) ds Q') :
   JoinQ T acc (d :: ds) (fun bl r=>(∃ bl',bl=(acc++d.ws.map Wt.u) :: bl'∧Q bl' r)∨Q' bl r):=by
 intro ls en c pre hl he n1 n2 n3 n4 e
 cases hl with
 | cons hp hk =>
   rename_i l ls
   obtain ⟨hk2,ht,_⟩:=hp.com hc
   rcases hk2 with h2k | h5k
   · obtain ⟨bl,r,rd,h1,h2,h3⟩:=h ls en hk he
     rw [plsT_cons]
     refine ⟨(c,pre++l.1) :: bl,r,rd,?_,Or.inl ⟨_,?_,h2⟩,h3⟩
     · have:=Body.line c (pre++l.1) l.2 (plsT ls++[en]) bl r n1 n2 n3 (fun u hu=>by
         rcases List.mem_append.1 hu with hu | hu
         · exact n4 u hu
         · exact (hp.non hu).1) (Or.inr h2k) h1
       simpa using this
     · subst e
       simp [lnT,hp.ts]
   · obtain ⟨bl,r,rd,h1,h2,h3⟩:=h' ls en c (pre++l.1++[l.2]) hk he n1 n2 n3 (fun u hu=>by
         rcases List.mem_append.1 hu with hu | hu
         · rcases List.mem_append.1 hu with hu | hu
           · exact n4 u hu
           · exact (hp.non hu).1
         · obtain rfl:=List.mem_singleton.1 hu
           exact ⟨by omega,by omega,by omega⟩) (by
         subst e
         simp [lnT,hp.ts,ht])
     rw [plsT_cons]
     refine ⟨bl,r,rd,by simpa using h1,Or.inr h2,h3⟩
theorem BodyQ.line {x:Wt} {xs:List Wt} {Q:List (List (List UInt8))→Option (List Dl)→Prop} (hw:d.ws=x :: xs) (h41:kG x.u≠41) (hc:d.com=none) (h:BodyQ T ds Q):BodyQ T (d :: ds) (fun bl r=>∃ bl',bl=d.ws.map Wt.u :: bl'∧Q bl' r):=by
 intro ls en hl he
 cases hl with
 | cons hp hk =>
   rename_i l ls
   obtain ⟨t,ts,e1,e2,e3,e4,e5⟩:=hp.words hw
   obtain ⟨bl,r,rd,h1,h2,h3⟩:=h ls en hk he
   rw [plsT_cons,e1]
   have ht:=hp.non (t:=t) (by rw [e1];simp)
   refine ⟨(t,ts) :: bl,r,rd,?_,⟨_,?_,h2⟩,h3⟩
   · exact Body.line t ts l.2 (plsT ls++[en]) bl r ht.1 ht.2 (by rw [e2];exact h41) (fun u hu=>(hp.non (t:=u) (by rw [e1];simp [hu])).1) (Or.inl (hp.nl hc)) h1
   · simp [lnT,e3,e5,hw]
theorem BodyQ.com {x:Wt} {xs:List Wt} {g t:List UInt8} {Q Q':List (List (List UInt8))→Option (List Dl)→Prop} (hw:d.ws=x :: xs) (h41:kG x.u≠41) (hc:d.com=some (g,t)) (h:BodyQ T ds Q) (h':JoinQ T (d.ws.map Wt.u++[t]) ds Q') :
   BodyQ T (d :: ds) (fun bl r=>(∃ bl',bl=d.ws.map Wt.u :: bl'∧Q bl' r)∨Q' bl r):=by
 intro ls en hl he
 cases hl with
 | cons hp hk =>
   rename_i l ls
   obtain ⟨u,us,e1,e2,e3,e4,e5⟩:=hp.words hw
   have hu:=hp.non (t:=u) (by rw [e1];simp)
   obtain ⟨hk2,ht,_⟩:=hp.com hc
   rw [plsT_cons,e1]
   have hus:∀ y ∈ us,NonE y:=fun y hy=>(hp.non (t:=y) (by rw [e1];simp [hy])).1
   rcases hk2 with h2k | h5k
   · obtain ⟨bl,r,rd,h1,h2,h3⟩:=h ls en hk he
     refine ⟨(u,us) :: bl,r,rd,?_,Or.inl ⟨_,?_,h2⟩,h3⟩
     · exact Body.line u us l.2 (plsT ls++[en]) bl r hu.1 hu.2 (by rw [e2];exact h41) hus (Or.inr h2k) h1
     · simp [lnT,e3,e5,hw]
   · obtain ⟨bl,r,rd,h1,h2,h3⟩:=h' ls en u (us++[l.2]) hk he hu.1 hu.2 (by rw [e2];exact h41) (fun y hy=>by
       rcases List.mem_append.1 hy with hy | hy
       · exact hus y hy
       · obtain rfl:=List.mem_singleton.1 hy
         exact ⟨by omega,by omega,by omega⟩) (by simp [lnT,e3,e5,hw,ht])
     exact ⟨bl,r,rd,by simpa using h1,Or.inr h2,h3⟩
theorem ReadsP.nil:ReadsP T [] (fun ss b=>ss=[]∧b=true):=by
 intro ls en hl he
 cases hl
 exact ⟨[],true,.eof en he,rfl,rfl⟩
theorem ReadsP.blank {Q:List StT→Bool→Prop} (hw:d.ws=[]) (hc:d.com=none) (h:ReadsP T ds Q):ReadsP T (d :: ds) Q:=by
 intro ls en hl he
 cases hl with
 | cons hp hk =>
   rename_i l ls
   obtain ⟨st,b,h1,h2⟩:=h ls en hk he
   rw [plsT_cons,hp.none hw,List.nil_append]
   exact ⟨st,b,.skip _ _ _ _ (Or.inl (hp.nl hc)) h1,h2⟩
theorem ReadsP.why {t:List UInt8} {Q:List StT→Bool→Prop} (hw:d.ws=[]) (hc:d.com=some ([],t)) (h:ReadsP T ds Q):ReadsP T (d :: ds) Q:=by
 intro ls en hl he
 cases hl with
 | cons hp hk =>
   rename_i l ls
   obtain ⟨st,b,h1,h2⟩:=h ls en hk he
   rw [plsT_cons,hp.none hw,List.nil_append]
   exact ⟨st,b,.skip _ _ _ _ (Or.inr ((hp.com hc).2.2 hw rfl)) h1,h2⟩
theorem PlOf.no40 {l:List Tk × Tk} {ts:List Tk} {xs:List Wt} (hk:ts.map Tk.k=xs.map (fun x=>kG x.u)) (h:∀ x ∈ xs,kG x.u≠40):∀ u ∈ ts,NonE u∧u.k≠40:=by
 intro u hu
 have h1:u.k ∈ ts.map Tk.k:=List.mem_map_of_mem hu
 rw [hk] at h1
 obtain ⟨x,hx,e⟩:=List.mem_map.1 h1
 exact ⟨(kG_non e.symm).1,by rw [← e];exact h x hx⟩
theorem ReadsP.line {x:Wt} {xs:List Wt} {Q:List StT→Bool→Prop} (hw:d.ws=x :: xs) (h40:∀ y ∈ xs,kG y.u≠40) (hc:d.com=none) (h:ReadsP T ds Q):ReadsP T (d :: ds) (fun ss b=>∃ ss',ss=.line x.u (xs.map Wt.u) :: ss'∧Q ss' b):=by
 intro ls en hl he
 cases hl with
 | cons hp hk =>
   rename_i l ls
   obtain ⟨st,b,h1,h2⟩:=h ls en hk he
   obtain ⟨t,ts,e1,e2,e3,e4,e5⟩:=hp.words hw
   have ht:=hp.non (t:=t) (by rw [e1];simp)
   rw [plsT_cons,e1]
   refine ⟨.line t ts :: st,b,?_,_,?_,h2⟩
   · exact .line t ts l.2 (plsT ls++[en]) st b ht.1.h1 ht.2 ht.1.h3 (PlOf.no40 (l:=l) e4 h40) (Or.inl (hp.nl hc)) h1
   · simp [Stm.tx,e3,e5]
theorem ReadsP.com {x:Wt} {xs:List Wt} {g t:List UInt8} {d2:Dl} {Q:List StT→Bool→Prop} (hw:d.ws=x :: xs) (h40:∀ y ∈ xs,kG y.u≠40) (hc:d.com=some (g,t)) (hw2:d2.ws=[]) (hc2:d2.com=none) (h:ReadsP T ds Q) :
   ReadsP T (d :: d2 :: ds) (fun ss b=>∃ ss',(ss=.line x.u (xs.map Wt.u) :: ss'∨ss=.line x.u (xs.map Wt.u++[t]) :: ss')∧Q ss' b):=by
 intro ls en hl he
 cases hl with
 | cons hp hk =>
   rename_i l ls
   cases hk with
   | cons hp2 hk2 =>
     rename_i l2 ls
     obtain ⟨st,b,h1,h2⟩:=h ls en hk2 he
     obtain ⟨u,us,e1,e2,e3,e4,e5⟩:=hp.words hw
     have hu:=hp.non (t:=u) (by rw [e1];simp)
     obtain ⟨hkk,htx,_⟩:=hp.com hc
     have hn:=PlOf.no40 (l:=l) e4 h40
     rw [plsT_cons,plsT_cons,e1,hp2.none hw2,List.nil_append]
     rcases hkk with h2k | h5k
     · refine ⟨.line u us :: st,b,?_,_,Or.inl ?_,h2⟩
       · exact .line u us l.2 (l2.2 :: (plsT ls++[en])) st b hu.1.h1 hu.2 hu.1.h3 hn (Or.inr h2k) (.skip _ _ _ _ (Or.inl (hp2.nl hc2)) h1)
       · simp [Stm.tx,e3,e5]
     · refine ⟨.line u (us++[l.2]) :: st,b,?_,_,Or.inr ?_,h2⟩
       · have:=FileP.line u (us++[l.2]) l2.2 (plsT ls++[en]) st b hu.1.h1 hu.2 hu.1.h3 (fun y hy=>by
           rcases List.mem_append.1 hy with hy | hy
           · exact hn y hy
           · obtain rfl:=List.mem_singleton.1 hy
             exact ⟨⟨by omega,by omega,by omega⟩,by omega⟩) (Or.inl (hp2.nl hc2)) h1
         simpa using this
       · simp [Stm.tx,e3,e5,htx]
theorem ReadsP.block {x y:Wt} {QB:List (List (List UInt8))→Option (List Dl)→Prop} {Q:List StT→Bool→Prop} (hw:d.ws=[x,y]) (hx:kG x.u=-3) (hy:kG y.u=40) (hc:d.com=none) (hb:BodyQ T ds QB)
   (h0:∀ bl,QB bl none→Q [] false) (h1:∀ bl ds',QB bl (some ds')→ReadsP T ds' (fun ss b=>Q (.block x.u [] bl :: ss) b)):ReadsP T (d :: ds) Q:=by
 intro ls en hl he
 cases hl with
 | cons hp hk =>
   rename_i l ls
   obtain ⟨bl,r,rd,k1,k2,k3⟩:=hb ls en hk he
   obtain ⟨t,ts,e1,e2,e3,e4,e5⟩:=hp.words hw
   obtain ⟨lp,rfl⟩:∃ lp,ts=[lp]:=by
     rcases ts with _ | ⟨a,_ | ⟨b,r⟩⟩
     · simp at e4
     · exact ⟨a,rfl⟩
     · simp at e4
   simp only [List.map_cons,List.map_nil,List.cons.injEq,and_true] at e4
   rw [plsT_cons,e1]
   have hb2:Body (l.2 :: (plsT ls++[en])) bl r:=.skip _ _ _ _ (Or.inr (Or.inl (hp.nl hc))) k1
   rcases k3 with ⟨rfl,rfl⟩ | ⟨ds',ls',rfl,hls,rfl⟩
   · refine ⟨[],false,?_,h0 _ k2⟩
     exact .bad t [] lp l.2 (plsT ls++[en]) bl (by omega) (by omega) (by omega) (by simp) (by rw [e4,hy]) (Or.inl (hp.nl hc)) hb2
   · obtain ⟨st,b,m1,m2⟩:=h1 _ ds' k2 ls' en hls he
     refine ⟨.block t [] bl :: st,b,?_,?_⟩
     · exact .block t [] lp l.2 (plsT ls++[en]) (plsT ls'++[en]) bl st b (by omega) (by omega) (by omega) (by simp) (by rw [e4,hy]) (Or.inl (hp.nl hc)) hb2 m1
     · simpa [Stm.tx,e3] using m2
end
end
end Go.Proofs.YtifkpibjeamfkaaGreatFmt
