/-
  A tree of statements in memory; what parseFile's loop knows.
  What parseFile's loop knows, and how it goes on.
-/
import Derived.Test.YtifkpibjeamfkaaGreatFmtZ20
set_option linter.unusedVariables false
set_option linter.unusedSimpArgs false
set_option maxRecDepth 100000
namespace Go.Proofs.YtifkpibjeamfkaaGreatFmt
section
open Go.RowKit Go.Proofs
inductive Stm
 | line (t:Tk) (ts:List Tk)
 | block (t:Tk) (ts:List Tk) (ls:List (Tk × List Tk))
inductive FileP:List Tk→List Stm→Bool→Prop
 | eof (c:Tk) (h:c.k=-1):FileP [c] [] true
 | skip (c:Tk) (cs:List Tk) (ss:List Stm) (b:Bool) (h:c.k=10∨c.k=-5) (r:FileP cs ss b):FileP (c :: cs) ss b
 | line (t:Tk) (ts:List Tk) (nl:Tk) (cs:List Tk) (ss:List Stm) (b:Bool) (h1:t.k≠10) (h2:t.k≠-5) (h3:t.k≠-1) (hw:∀ u ∈ ts,NonE u∧u.k≠40) (hn:EolK nl) (r:FileP cs ss b):FileP (t :: (ts++nl :: cs)) (.line t ts :: ss) b
 | block (t:Tk) (ts:List Tk) (lp e:Tk) (cs cs':List Tk) (ls:List (Tk × List Tk)) (ss:List Stm) (b:Bool) (h1:t.k≠10) (h2:t.k≠-5) (h3:t.k≠-1) (hw:∀ u ∈ ts,NonE u∧u.k≠40) (hl:lp.k=40) (he:EolK e) (hb:Body (e :: cs) ls (some cs')) (r:FileP cs' ss b):FileP (t :: (ts++lp :: e :: cs)) (.block t ts ls :: ss) b
 | bad (t:Tk) (ts:List Tk) (lp e:Tk) (cs:List Tk) (ls:List (Tk × List Tk)) (h1:t.k≠10) (h2:t.k≠-5) (h3:t.k≠-1) (hw:∀ u ∈ ts,NonE u∧u.k≠40) (hl:lp.k=40) (he:EolK e) (hb:Body (e :: cs) ls none):FileP (t :: (ts++lp :: e :: cs)) [] false
theorem FileP.ne {l:List Tk} {ss:List Stm} {b:Bool} (h:FileP l ss b):∃ d ds,l=d :: ds:=by
 cases h <;> exact ⟨_,_,rfl⟩
theorem Body.suffix {l:List Tk} {ls:List (Tk × List Tk)} {r:Option (List Tk)} (h:Body l ls r):∀ cs,r=some cs→∃ a,l=a++cs:=by
 induction h with
 | skip c cs ls r h hb ih=>intro ds e;obtain ⟨a,ha⟩:=ih ds e;exact ⟨c :: a,by rw [ha];rfl⟩
 | eof c h=>intro ds e;cases e
 | close c e t cs h he=>intro ds e';cases e';exact ⟨[c,e],rfl⟩
 | line c pre e cs ls r h h5 h41 hp he hb ih=>intro ds e';obtain ⟨a,ha⟩:=ih ds e';exact ⟨c :: (pre++e :: a),by rw [ha];simp⟩
inductive Nd
 | cb (C:Nat)
 | ln (L:Nat)
 | bk (X:Nat) (Ls:List Nat)
def cbV (C:Nat):Value:=.iface 197 (.pointer (some ⟨C,0,none⟩))
def Nd.val:Nd→Value
 | .cb C=>cbV C
 | .ln L=>lineV L
 | .bk X _=>lbV X
def Nd.ids:Nd→List Nat
 | .cb C=>[C]
 | .ln L=>[L]
 | .bk X Ls=>X :: Ls
def idsOf (ns:List Nd):List Nat:=ns.flatMap Nd.ids
def CbAt (w:World) (C:Nat) (v:Value):Prop:=∃ a1 a2 a3:Int,Blk w C 201 #[v,nilS,nilS,.int .i64 a1,.int .i64 a2,.int .i64 a3]
inductive TreeAt (N:Nat) (w:World) (T:List UInt8) (P:Nat→Prop):List Nd→List Stm→Prop
 | nil:TreeAt N w T P [] []
 | cb {C:Nat} {ns:List Nd} {ss:List Stm} (bv:Value) (cs:List Cmt) (h:CbAt w C bv) (hc:CmAt N w bv cs) (hp:∀ g,bv.ownBlock=some g→P g) (k:TreeAt N w T P ns ss):TreeAt N w T P (.cb C :: ns) ss
 | ln {L:Nat} {t:Tk} {ts:List Tk} {ns:List Nd} {ss:List Stm} (bv:Value) (cs:List Cmt) (h:LnAt N w T L bv false t ts) (hc:CmB N w bv cs) (hp:∀ g,bv.ownBlock=some g→P g) (k:TreeAt N w T P ns ss):TreeAt N w T P (.ln L :: ns) (.line t ts :: ss)
 | bk {X:Nat} {Ls:List Nat} {t:Tk} {ts:List Tk} {ls:List (Tk × List Tk)} {ns:List Nd} {ss:List Stm} (bv:Value) (cs:List Cmt) (h:BkAt N w T P X Ls bv t ts ls) (hc:CmB N w bv cs) (hp:∀ g,bv.ownBlock=some g→P g) (k:TreeAt N w T P ns ss):TreeAt N w T P (.bk X Ls :: ns) (.block t ts ls :: ss)
structure Calm (S:Nat→TypeId→Prop) (P:Nat→Prop) (ids:List Nat):Prop where
 cb:∀ C ∈ ids,¬ S C 201
 ln:∀ C ∈ ids,¬ S C 136
 bk:∀ C ∈ ids,¬ S C 143
 str:∀ g,¬ S g 9
 pl:∀ g,¬ S g 92
 com:∀ g,P g→¬ S g 194
theorem LnsAt.keptU' {N M:Nat} {S:Nat→TypeId→Prop} {w w':World} {T:List UInt8} {P Q:Nat→Prop} {Ls:List Nat} {ls:List (Tk × List Tk)} (h:LnsAt N w T P Ls ls) (k:Ku M S w w') (h1:∀ L ∈ Ls,¬ S L 136) (h2:∀ g,¬ S g 9) (h3:∀ g,P g→¬ S g 194) (hq:∀ g,P g→Q g):LnsAt N w' T Q Ls ls:=by
 induction h with
 | nil=>exact .nil
 | cons bv cs h hc hp _ ih=>exact .cons bv cs (h.keptU k (h1 _ (List.mem_cons_self ..)) h2) (hc.keptU k (fun g e=>h3 g (hp g e))) (fun g e=>hq g (hp g e)) (ih (fun L hL=>h1 L (List.mem_cons_of_mem _ hL)))
theorem BkAt.keptU' {N M:Nat} {S:Nat→TypeId→Prop} {w w':World} {T:List UInt8} {P Q:Nat→Prop} {X:Nat} {Ls:List Nat} {bv:Value} {t:Tk} {ts:List Tk} {ls:List (Tk × List Tk)} (h:BkAt N w T P X Ls bv t ts ls) (k:Ku M S w w') (hs:Calm S P (X :: Ls)) (hq:∀ g,P g→Q g):BkAt N w' T Q X Ls bv t ts ls:=by
 obtain ⟨a1,a2,a3,p1,p2,p3,tv,lv,rb,cms,q1,q2,q3,b1,b2,b3,b4,b5,b6,b7⟩:=h
 exact ⟨a1,a2,a3,p1,p2,p3,tv,lv,rb,cms,q1,q2,q3,b1.keptU k (hs.bk _ (List.mem_cons_self ..)),ownsRow_keptU b2 k (fun g _=>hs.str g),ownsRow_keptU b3 k (fun g _=>hs.pl g),b4.keptU' k (fun L hL=>hs.ln L (List.mem_cons_of_mem _ hL)) hs.str hs.com hq,b5.keptU k (fun g e=>hs.com g (b6 g e)),fun g e=>hq g (b6 g e),b7⟩
theorem Calm.mono {S:Nat→TypeId→Prop} {P:Nat→Prop} {a b:List Nat} (h:Calm S P b) (hs:∀ x ∈ a,x ∈ b):Calm S P a :=
 ⟨fun C hC=>h.cb C (hs C hC),fun C hC=>h.ln C (hs C hC),fun C hC=>h.bk C (hs C hC),h.str,h.pl,h.com⟩
theorem TreeAt.keptU {N M:Nat} {S:Nat→TypeId→Prop} {w w':World} {T:List UInt8} {P Q:Nat→Prop} {ns:List Nd} {ss:List Stm} (h:TreeAt N w T P ns ss) (k:Ku M S w w') (hs:Calm S P (idsOf ns)) (hq:∀ g,P g→Q g):TreeAt N w' T Q ns ss:=by
 induction h with
 | nil=>exact .nil
 | cb bv cs h hc hp _ ih =>
   obtain ⟨a1,a2,a3,hb⟩:=h
   exact .cb bv cs ⟨a1,a2,a3,hb.keptU k (hs.cb _ (by simp [idsOf,Nd.ids]))⟩ (hc.keptU k (fun g e=>hs.com g (hp g e))) (fun g e=>hq g (hp g e)) (ih (hs.mono (fun x hx=>by simp [idsOf] at hx ⊢;exact Or.inr hx)))
 | ln bv cs h hc hp _ ih =>
   exact .ln bv cs (h.keptU k (hs.ln _ (by simp [idsOf,Nd.ids])) hs.str) (hc.keptU k (fun g e=>hs.com g (hp g e))) (fun g e=>hq g (hp g e)) (ih (hs.mono (fun x hx=>by simp [idsOf] at hx ⊢;exact Or.inr hx)))
 | bk bv cs h hc hp _ ih =>
   exact .bk bv cs (h.keptU' k (hs.mono (fun x hx=>by simp [idsOf,Nd.ids] at hx ⊢;rcases hx with hx | hx <;> simp [hx])) hq) (hc.keptU k (fun g e=>hs.com g (hp g e))) (fun g e=>hq g (hp g e)) (ih (hs.mono (fun x hx=>by simp [idsOf] at hx ⊢;exact Or.inr hx)))
theorem TreeAt.append {N:Nat} {w:World} {T:List UInt8} {P:Nat→Prop} {a b:List Nd} {sa sb:List Stm} (h:TreeAt N w T P a sa) (k:TreeAt N w T P b sb):TreeAt N w T P (a++b) (sa++sb):=by
 induction h with
 | nil=>exact k
 | cb bv cs h hc hp _ ih=>exact .cb bv cs h hc hp ih
 | ln bv cs h hc hp _ ih=>exact .ln bv cs h hc hp ih
 | bk bv cs h hc hp _ ih=>exact .bk bv cs h hc hp ih
theorem LnsAt.ltw {N:Nat} {w:World} {T:List UInt8} {P:Nat→Prop} {Ls:List Nat} {ls:List (Tk × List Tk)} (h:LnsAt N w T P Ls ls):∀ L ∈ Ls,∃ cs,Blk w L 136 cs:=by
 induction h with
 | nil=>simp
 | cons bv cs h _ _ _ ih =>
   intro L hL
   rcases List.mem_cons.1 hL with rfl | hL
   · obtain ⟨_,hb,_⟩:=h;exact ⟨_,hb⟩
   · exact ih L hL
theorem TreeAt.ids {N:Nat} {w:World} {T:List UInt8} {P:Nat→Prop} {ns:List Nd} {ss:List Stm} (h:TreeAt N w T P ns ss):∀ k ∈ idsOf ns,∃ cs u,Blk w k u cs∧(u=201∨u=136∨u=143):=by
 induction h with
 | nil=>simp [idsOf]
 | cb bv cs h hc hp _ ih =>
   intro k hk
   simp only [idsOf,List.flatMap_cons,List.mem_append] at hk
   rcases hk with hk | hk
   · obtain rfl:=List.mem_singleton.1 hk
     obtain ⟨a1,a2,a3,hb⟩:=h
     exact ⟨_,_,hb,Or.inl rfl⟩
   · exact ih k hk
 | ln bv cs h hc hp _ ih =>
   intro k hk
   simp only [idsOf,List.flatMap_cons,List.mem_append] at hk
   rcases hk with hk | hk
   · obtain rfl:=List.mem_singleton.1 hk
     obtain ⟨_,hb,_⟩:=h
     exact ⟨_,_,hb,Or.inr (Or.inl rfl)⟩
   · exact ih k hk
 | bk bv cs h hc hp _ ih =>
   intro k hk
   simp only [idsOf,List.flatMap_cons,List.mem_append] at hk
   rcases hk with hk | hk
   · obtain ⟨a1,a2,a3,p1,p2,p3,tv,lv,rb,cms,q1,q2,q3,b1,b2,b3,b4,b5,b6,b7⟩:=h
     rcases List.mem_cons.1 hk with rfl | hk
     · exact ⟨_,_,b1,Or.inr (Or.inr rfl)⟩
     · obtain ⟨cs,hb⟩:=b4.ltw k hk
       exact ⟨_,_,hb,Or.inr (Or.inl rfl)⟩
   · exact ih k hk
theorem TreeAt.lt {N:Nat} {w:World} {T:List UInt8} {P:Nat→Prop} {ns:List Nd} {ss:List Stm} (h:TreeAt N w T P ns ss):∀ k ∈ idsOf ns,k < w.heap.size:=fun k hk=>by
 obtain ⟨cs,u,hb,_⟩:=h.ids k hk
 exact hb.lt
end
section
open Go.RowKit Go.Proofs
structure PFI (N:Nat) (σ:Lx) (w:World) (P:Nat→Prop) (F:Nat) (Q:Nat→Prop) (c:Tk) (v2 v:Value) (cms:List Cmt) (ns:List Nd) (ss:List Stm) (wr:World):Prop where
 ps:PsAt N wr σ c (fun k=>Q k∨v.ownBlock=some k)
 sub:∀ k,P k→Q k
 lt:∀ k,Q k→k < wr.heap.size
 com:CmAt N wr v cms
 cb:(v2=.pointer none∧v=nilS)∨∃ C,v2=.pointer (some ⟨C,0,none⟩)∧CbAt wr C v∧C ∉ idsOf ns∧w.heap.size≤C
 file:FileAt N wr F ⟨#[]⟩ (ns.map Nd.val)
 tree:TreeAt N wr σ.T Q ns ss
 nd:(idsOf ns).Nodup
 old:∀ k ∈ idsOf ns,w.heap.size≤k
 ku:Ku N (StmtP P) w wr
 hF:w.heap.size≤F
section
variable {N:Nat} {σ:Lx} {w:World} {P:Nat→Prop} {F:Nat} {Q:Nat→Prop} {c:Tk} {v2 v:Value} {cms:List Cmt} {ns:List Nd} {ss:List Stm} {wr:World}
theorem PFI.ltAll (h:PFI N σ w P F Q c v2 v cms ns ss wr):∀ k,(Q k∨v.ownBlock=some k)→k < wr.heap.size :=
 fun k e=>e.elim (h.lt k) (fun e=>(h.com.lt k e).2)
theorem PFI.move {c':Tk} {w2:World} {S:Nat→TypeId→Prop} (h:PFI N σ w P F Q c v2 v cms ns ss wr) (k:Ku N S wr w2) (hp:PsAt N w2 σ c' (fun k=>Q k∨v.ownBlock=some k))
   (s1:∀ g,¬ S g 201) (s2:∀ g,¬ S g 136) (s3:∀ g,¬ S g 143) (s4:∀ g,¬ S g 9) (s5:∀ g,¬ S g 92) (s6:∀ g,(Q g∨v.ownBlock=some g)→¬ S g 194) (s7:¬ S F 129) (s8:∀ g,¬ S g 131)
   (hs:∀ i t,i < w.heap.size→S i t→StmtP P i t):PFI N σ w P F Q c' v2 v cms ns ss w2:=by
 refine ⟨hp,h.sub,fun g hg=>Nat.lt_of_lt_of_le (h.lt g hg) k.size,h.com.keptU k (fun g e=>s6 g (Or.inr e)),?_,h.file.keptU k s7 s8,
   h.tree.keptU k ⟨fun C _=>s1 C,fun C _=>s2 C,fun C _=>s3 C,s4,s5,fun g hg=>s6 g (Or.inl hg)⟩ (fun _ x=>x),h.nd,h.old,h.ku.trans' k hs,h.hF⟩
 rcases h.cb with e | ⟨C,e,⟨a1,a2,a3,hb⟩,e2,e3⟩
 · exact Or.inl e
 · exact Or.inr ⟨C,e,⟨a1,a2,a3,hb.keptU k (s1 C)⟩,e2,e3⟩
theorem PFI.lexed {c':Tk} {w2:World} (h:PFI N σ w P F Q c v2 v cms ns ss wr) (k:Ku N (LexP (fun k=>Q k∨v.ownBlock=some k)) wr w2) (hp:PsAt N w2 σ c' (fun k=>Q k∨v.ownBlock=some k)):PFI N σ w P F Q c' v2 v cms ns ss w2 :=
 h.move k hp (by simp [LexP]) (by simp [LexP]) (by simp [LexP]) (by simp [LexP]) (by simp [LexP]) (fun g hg x=>x.elim (fun x=>absurd x (by decide)) (fun x=>x.2 hg)) (by simp [LexP]) (by simp [LexP])
   (fun i t _ x=>Or.inl (x.elim Or.inl (fun x=>Or.inr ⟨x.1,fun hP=>x.2 (Or.inl (h.sub i hP))⟩)))
theorem PFI.quiet {w2:World} (h:PFI N σ w P F Q c v2 v cms ns ss wr) (k:Ku N (fun _ _=>False) wr w2):PFI N σ w P F Q c v2 v cms ns ss w2 :=
 h.move k (h.ps.keptU k id id (fun _ x=>x.elim)) (fun _=>id) (fun _=>id) (fun _=>id) (fun _=>id) (fun _=>id) (fun _ _=>id) id (fun _=>id) (fun _ _ _ x=>x.elim)
theorem idsOf_append (a b:List Nd):idsOf (a++b)=idsOf a++idsOf b:=by simp [idsOf]
theorem PFI.flush {C g cap n:Nat} {W w3:World} (h:PFI N σ w P F Q c v2 v cms ns ss wr) (hv:v2=.pointer (some ⟨C,0,none⟩)) (hN:N≤wr.heap.size) (hNw:N≤w.heap.size)
   (k3:Ku N (fun _ u=>u=131) wr w3) (hn:n=ns.length+1) (hown:w3.ownsRow N 131 1 (.slice (some ⟨g,0,none⟩) n cap) n (ns.map Nd.val++[cbV C])) (hW:W=w3.setCell ⟨F,4,none⟩ (.slice (some ⟨g,0,none⟩) n cap)) :
   PFI N σ w P F (fun k=>Q k∨v.ownBlock=some k) c (.pointer none) nilS [] (ns++[.cb C]) ss W:=by
 subst hW
 obtain ⟨fv,hFb,hFo⟩:=h.file
 have hF3:=hFb.keptU k3 (by decide)
 have kW:Ku N (fun i u=>u=131∨(u=129∧i=F)) wr (w3.setCell ⟨F,4,none⟩ (.slice (some ⟨g,0,none⟩) n cap)):=by
   refine Ku.set_blk ?_ (Nat.le_trans hNw h.hF) hFb (Or.inr ⟨rfl,rfl⟩)
   exact k3.mono (fun _ _ x=>Or.inl x)
 have kf:Ku N (fun _ u=>u=129) w3 (w3.setCell ⟨F,4,none⟩ (.slice (some ⟨g,0,none⟩) n cap)):=by
   refine Ku.set_blk ?_ (Nat.le_trans hNw h.hF) hF3 rfl
   exact Ku.refl _ _ _
 rcases h.cb with ⟨e,_⟩ | ⟨C',e,hcb,e2,e3⟩
 · rw [hv] at e;cases e
 rw [hv] at e
 simp only [Value.pointer.injEq,Option.some.injEq,Addr.mk.injEq,and_true] at e
 subst e
 have hs:Calm (fun i u=>u=131∨(u=129∧i=F)) Q (idsOf ns):=⟨fun _ _=>by simp,fun _ _=>by simp,fun _ _=>by simp,by simp,by simp,fun _ _=>by simp⟩
 refine ⟨(h.ps.keptU kW (by simp) (by simp) (by simp)).mono (fun k e=>e.elim id (fun e=>by simp [nilS,Value.ownBlock] at e)),fun k e=>Or.inl (h.sub k e),fun k e=>Nat.lt_of_lt_of_le (h.ltAll k e) kW.size,CmAt.nil _ _,Or.inl ⟨rfl,rfl⟩,?_,?_,?_,?_,?_,h.hF⟩
 · refine ⟨.slice (some ⟨g,0,none⟩) n cap,(hF3.set 4 _).eq (by simp),?_⟩
   subst hn
   have:=ownsRow_keptU hown kf (fun _ _=>by decide)
   simpa [Nd.val] using this
 · have h1:=h.tree.keptU (Q:=fun k=>Q k∨v.ownBlock=some k) kW hs (fun _ x=>Or.inl x)
   have h2:TreeAt N (w3.setCell ⟨F,4,none⟩ (.slice (some ⟨g,0,none⟩) n cap)) σ.T (fun k=>Q k∨v.ownBlock=some k) [.cb C] []:=by
     obtain ⟨a1,a2,a3,hb⟩:=hcb
     exact .cb v cms ⟨a1,a2,a3,hb.keptU kW (by simp)⟩ (h.com.keptU kW (fun _ _=>by simp)) (fun g e=>Or.inr e) .nil
   have:=h1.append h2
   rwa [List.append_nil] at this
 · rw [idsOf_append,List.nodup_append]
   refine ⟨h.nd,by simp [idsOf,Nd.ids],fun a ha b hb=>?_⟩
   simp [idsOf,Nd.ids] at hb
   subst hb
   rintro rfl
   exact e2 ha
 · intro k hk
   rw [idsOf_append,List.mem_append] at hk
   rcases hk with hk | hk
   · exact h.old k hk
   · simp [idsOf,Nd.ids] at hk
     subst hk
     exact e3
 · exact h.ku.trans' kW (fun i t hi x=>x.elim (fun x=>Or.inr (Or.inr x)) (fun x=>Or.inr (Or.inl x.1)))
theorem PFI.open {a1 a2 a3:Int} (h:PFI N σ w P F Q c (.pointer none) v cms ns ss wr) (hN:N≤wr.heap.size) (hw:w.heap.size≤wr.heap.size) :
   PFI N σ w P F Q c (.pointer (some ⟨wr.heap.size,0,none⟩)) nilS [] ns ss (wr.alloc (Obj.cells #[nilS,nilS,nilS,.int .i64 a1,.int .i64 a2,.int .i64 a3] 201)):=by
 have h1:=h.quiet ((Ku.refl N (fun _ _=>False) wr).alloc hN (Obj.cells #[nilS,nilS,nilS,.int .i64 a1,.int .i64 a2,.int .i64 a3] 201))
 refine ⟨h1.ps.mono (fun k e=>e.elim Or.inl (fun e=>by simp [nilS,Value.ownBlock] at e)),h1.sub,h1.lt,CmAt.nil _ _,Or.inr ⟨wr.heap.size,rfl,⟨a1,a2,a3,Blk.new _ _ _⟩,fun hk=>by have:=h.tree.lt _ hk;omega,hw⟩,h1.file,h1.tree,h1.nd,h1.old,h1.ku,h1.hF⟩
theorem PFI.comment {W w3:World} {C g cap n H:Nat} {x:Cmt} (h:PFI N σ w P F Q c (.pointer (some ⟨C,0,none⟩)) v cms ns ss wr) (out:∀ g,v.ownBlock=some g→¬ Q g) (hNw:N≤w.heap.size) (hx:x.ok) (hn:n=cms.length+1)
   (k3:Ku N (fun i u=>u=194∧v.ownBlock=some i) wr w3) (hown:w3.ownsRow N 194 5 (.slice (some ⟨g,0,none⟩) n cap) n (cvals cms++x.vals)) (hat:v.ownBlock=some g∨g=H) (hH:wr.heap.size≤H) (hlt:g < w3.heap.size)
   (hW:W=w3.setCell ⟨C,0,none⟩ (.slice (some ⟨g,0,none⟩) n cap)) :
   PFI N σ w P F Q c (.pointer (some ⟨C,0,none⟩)) (.slice (some ⟨g,0,none⟩) n cap) (cms++[x]) ns ss W∧∀ q,(Value.slice (some ⟨g,0,none⟩) n cap).ownBlock=some q→¬ Q q:=by
 subst hW
 rcases h.cb with ⟨e,_⟩ | ⟨C',e,⟨a1,a2,a3,hb⟩,e2,e3⟩
 · cases e
 simp only [Value.pointer.injEq,Option.some.injEq,Addr.mk.injEq,and_true] at e
 subst e
 have hb3:=hb.keptU k3 (by simp)
 have kW:Ku N (fun i u=>(u=194∧v.ownBlock=some i)∨(u=201∧i=C)) wr (w3.setCell ⟨C,0,none⟩ (.slice (some ⟨g,0,none⟩) n cap)):=by
   refine Ku.set_blk ?_ (Nat.le_trans hNw e3) hb (Or.inr ⟨rfl,rfl⟩)
   exact k3.mono (fun _ _ x=>Or.inl x)
 have kc:Ku N (fun _ u=>u=201) w3 (w3.setCell ⟨C,0,none⟩ (.slice (some ⟨g,0,none⟩) n cap)):=by
   refine Ku.set_blk ?_ (Nat.le_trans hNw e3) hb3 rfl
   exact Ku.refl _ _ _
 have hs:Calm (fun i u=>(u=194∧v.ownBlock=some i)∨(u=201∧i=C)) Q (idsOf ns) :=
   ⟨fun D hD x=>x.elim (fun x=>absurd x.1 (by decide)) (fun x=>e2 (x.2 ▸ hD)),fun _ _=>by simp,fun _ _=>by simp,by simp,by simp,fun q hq x=>x.elim (fun x=>out q x.2 hq) (fun x=>absurd x.1 (by decide))⟩
 refine ⟨⟨?_,h.sub,fun q hq=>Nat.lt_of_lt_of_le (h.lt q hq) kW.size,⟨?_,?_⟩,Or.inr ⟨C,rfl,⟨a1,a2,a3,(hb3.set 0 _).eq (by simp)⟩,e2,e3⟩,h.file.keptU kW (by simp) (by simp),h.tree.keptU kW hs (fun _ x=>x),h.nd,h.old,?_,h.hF⟩,?_⟩
 · refine ((h.ps.future).keptU kW (by simp) (by simp) (fun q x=>x.elim (fun x=>Or.inl (Or.inr x.2)) (fun x=>absurd x.1 (by decide)))).mono ?_
   rintro q (hq | hq)
   · exact Or.inl (Or.inl hq)
   · simp only [Value.ownBlock,Option.some.injEq] at hq
     subst hq
     rcases hat with e | e
     · exact Or.inl (Or.inr e)
     · exact Or.inr (by omega)
 · subst hn
   rw [List.length_append,cvals_append]
   have:=ownsRow_keptU hown kc (fun _ _=>by decide)
   simpa [cvals] using this
 · intro y hy
   rcases List.mem_append.1 hy with hy | hy
   · exact h.com.2 y hy
   · obtain rfl:=List.mem_singleton.1 hy
     exact hx
 · refine h.ku.trans' kW (fun i t hi x=>x.elim (fun x=>Or.inl (Or.inr ⟨x.1,fun hP=>out i x.2 (h.sub i hP)⟩)) (fun x=>by omega))
 · intro q hq hQ
   simp only [Value.ownBlock,Option.some.injEq] at hq
   subst hq
   rcases hat with e | e
   · exact out _ e hQ
   · have:=h.lt _ hQ;omega
theorem PFI.stmt {c':Tk} {w2:World} {Q':Nat→Prop} {nd:Nd} {st:Stm} (h:PFI N σ w P F Q c v2 v cms ns ss wr) (k:Ku N (StmtP (fun k=>Q k∨v.ownBlock=some k)) wr w2)
   (hq:∀ k,(Q k∨v.ownBlock=some k)→Q' k) (hp:PsAt N w2 σ c' Q') (hlt:∀ k,Q' k→k < w2.heap.size)
   (ht:TreeAt N w2 σ.T Q' [nd] [st]) (hnd:nd.ids.Nodup) (hnew:∀ k ∈ nd.ids,wr.heap.size≤k) (hf:FileAt N w2 F ⟨#[]⟩ (ns.map Nd.val++[nd.val])) (hw:w.heap.size≤wr.heap.size) :
   PFI N σ w P F Q' c' v2 v cms (ns++[nd]) (ss++[st]) w2:=by
 have s6:∀ g,(Q g∨v.ownBlock=some g)→¬ StmtP (fun k=>Q k∨v.ownBlock=some k) g 194:=by
   rintro g hg (x | x | x)
   · rcases x with x | x
     · exact absurd x (by decide)
     · exact x.2 hg
   · exact absurd x (by decide)
   · exact absurd x (by decide)
 have hs:Calm (StmtP (fun k=>Q k∨v.ownBlock=some k)) Q (idsOf ns):=⟨fun _ _=>by simp [StmtP,LexP],fun _ _=>by simp [StmtP,LexP],fun _ _=>by simp [StmtP,LexP],by simp [StmtP,LexP],by simp [StmtP,LexP],fun g hg=>s6 g (Or.inl hg)⟩
 have hqq:∀ g,Q g→Q' g:=fun g hg=>hq g (Or.inl hg)
 refine ⟨hp.mono (fun k e=>e.elim id (fun e=>hq k (Or.inr e))),fun q e=>hqq q (h.sub q e),hlt,h.com.keptU k (fun g e=>s6 g (Or.inr e)),?_,by simpa using hf,(h.tree.keptU k hs hqq).append ht,?_,?_,?_,h.hF⟩
 · rcases h.cb with e | ⟨C,e,⟨a1,a2,a3,hb⟩,e2,e3⟩
   · exact Or.inl e
   · refine Or.inr ⟨C,e,⟨a1,a2,a3,hb.keptU k (by simp [StmtP,LexP])⟩,fun hC=>?_,e3⟩
     rw [idsOf_append,List.mem_append] at hC
     rcases hC with hC | hC
     · exact e2 hC
     · simp [idsOf] at hC
       have:=hnew C hC
       have:=hb.lt
       omega
 · rw [idsOf_append,List.nodup_append]
   refine ⟨h.nd,by simpa [idsOf] using hnd,fun a ha b hb=>?_⟩
   simp [idsOf] at hb
   have:=hnew b hb
   have:=h.tree.lt a ha
   omega
 · intro q hq'
   rw [idsOf_append,List.mem_append] at hq'
   rcases hq' with hq' | hq'
   · exact h.old q hq'
   · simp [idsOf] at hq'
     have:=hnew q hq'
     omega
 · exact h.ku.trans' k (fun i t hi x=>x.elim (fun x=>Or.inl (x.elim Or.inl (fun x=>Or.inr ⟨x.1,fun hP=>x.2 (Or.inl (h.sub i hP))⟩))) (fun x=>Or.inr x))
theorem TreeAt.split {P:Nat→Prop} {T:List UInt8} {nd:Nd} {st:Stm} (h:TreeAt N wr T P (ns++[nd]) (ss++[st])) (hn:∀ C,nd≠.cb C):TreeAt N wr T P ns ss∧TreeAt N wr T P [nd] [st]:=by
 induction ns generalizing ss with
 | nil =>
   cases ss with
   | nil=>exact ⟨.nil,h⟩
   | cons s ss =>
     exfalso
     cases h with
     | cb bv cs h hc hp k=>exact hn _ rfl
     | ln bv cs h hc hp k=>cases ss <;> cases k
     | bk bv cs h hc hp k=>cases ss <;> cases k
 | cons n ns ih =>
   cases ss with
   | nil =>
     cases h with
     | cb bv cs h hc hp k=>exact ⟨.cb bv cs h hc hp (ih (ss:=[]) k).1,(ih (ss:=[]) k).2⟩
     | ln bv cs h hc hp k =>
       exfalso
       clear ih h hc hp
       induction ns with
       | nil=>cases k <;> exact hn _ rfl
       | cons m ns ih=>cases k with
         | cb bv cs h hc hp k=>exact ih k
     | bk bv cs h hc hp k =>
       exfalso
       clear ih h hc hp
       induction ns with
       | nil=>cases k <;> exact hn _ rfl
       | cons m ns ih=>cases k with
         | cb bv cs h hc hp k=>exact ih k
   | cons s ss =>
     cases h with
     | cb bv cs h hc hp k=>exact ⟨.cb bv cs h hc hp (ih (ss:=s :: ss) k).1,(ih (ss:=s :: ss) k).2⟩
     | ln bv cs h hc hp k=>exact ⟨.ln bv cs h hc hp (ih k).1,(ih k).2⟩
     | bk bv cs h hc hp k=>exact ⟨.bk bv cs h hc hp (ih k).1,(ih k).2⟩
theorem PFI.attach {W:World} {L:Nat} {nd:Nd} {st:Stm} (h:PFI N σ w P F Q c v2 v cms (ns++[nd]) (ss++[st]) wr) (hNw:N≤w.heap.size) (hnd:nd=.ln L∨∃ Ls,nd=.bk L Ls) (hW:W=wr.setCell ⟨L,0,none⟩ v) (hcl:cms.length≤1000100) :
   PFI N σ w P F (fun k=>Q k∨v.ownBlock=some k) c (.pointer none) nilS [] (ns++[nd]) (ss++[st]) W:=by
 subst hW
 have hmem:L ∈ idsOf (ns++[nd]):=by
   rw [idsOf_append,List.mem_append]
   rcases hnd with rfl | ⟨Ls,rfl⟩ <;> exact Or.inr (by simp [idsOf,Nd.ids])
 have hLw:=h.old L hmem
 have hLlt:=h.tree.lt L hmem
 have hnc:∀ C,nd≠.cb C:=by rcases hnd with rfl | ⟨Ls,rfl⟩ <;> simp
 obtain ⟨h1,h2⟩:=h.tree.split hnc
 have hL:L ∉ idsOf ns:=by
   have:=h.nd
   rw [idsOf_append,List.nodup_append] at this
   intro hL
   refine this.2.2 L hL L ?_ rfl
   rcases hnd with rfl | ⟨Ls,rfl⟩ <;> simp [idsOf,Nd.ids]
 have hLt:∃ u ds,Blk wr L u ds∧(u=136∨u=143):=by
   rcases hnd with rfl | ⟨Ls,rfl⟩
   · cases h2 with
     | ln bv cs hh hc hp k=>obtain ⟨_,hb,_⟩:=hh;exact ⟨_,_,hb,Or.inl rfl⟩
   · cases h2 with
     | bk bv cs hh hc hp k =>
       obtain ⟨a1,a2,a3,p1,p2,p3,tv,lv,rb,cms,q1,q2,q3,b1,b2,b3,b4,b5,b6,b7⟩:=hh
       exact ⟨_,_,b1,Or.inr rfl⟩
 obtain ⟨u,ds,hLb,hu⟩:=hLt
 have kW:Ku N (fun i t=>(t=136∨t=143)∧i=L) wr (wr.setCell ⟨L,0,none⟩ v):=by
   refine Ku.set_blk (Ku.refl _ _ _) (Nat.le_trans hNw hLw) hLb ⟨hu,rfl⟩
 have hs:Calm (fun i t=>(t=136∨t=143)∧i=L) Q (idsOf ns):=⟨fun _ _=>by simp,fun C hC x=>hL (x.2 ▸ hC),fun C hC x=>hL (x.2 ▸ hC),by simp,by simp,fun _ _=>by simp⟩
 refine ⟨(h.ps.keptU kW (by simp) (by simp) (by simp)).mono (fun k e=>e.elim id (fun e=>by simp [nilS,Value.ownBlock] at e)),fun k e=>Or.inl (h.sub k e),fun k e=>Nat.lt_of_lt_of_le (h.ltAll k e) kW.size,CmAt.nil _ _,Or.inl ⟨rfl,rfl⟩,h.file.keptU kW (by simp) (by simp),?_,h.nd,h.old,h.ku.trans' kW (fun i t hi x=>by have:=x.2;omega),h.hF⟩
 refine (h1.keptU kW hs (fun _ x=>Or.inl x)).append ?_
 have hcm:CmB N _ v cms:=⟨h.com.keptU kW (fun _ _=>by simp),hcl⟩
 rcases hnd with rfl | ⟨Ls,rfl⟩
 · cases h2 with
   | ln bv cs hh hc hp k =>
     obtain ⟨tv,hb,ho⟩:=hh
     exact .ln v cms ⟨tv,(hb.set 0 v).eq (by simp),ownsRow_keptU ho kW (fun _ _=>by simp)⟩ hcm (fun g e=>Or.inr e) .nil
 · cases h2 with
   | bk bv cs hh hc hp k =>
     obtain ⟨a1,a2,a3,p1,p2,p3,tv,lv,rb,cms',q1,q2,q3,b1,b2,b3,b4,b5,b6,b7⟩:=hh
     have hne:∀ M ∈ Ls,M≠L:=by
       rintro M hM rfl
       obtain ⟨ds',hb'⟩:=b4.ltw M hM
       exact absurd rfl (b1.ne hb' (by decide))
     exact .bk v cms ⟨a1,a2,a3,p1,p2,p3,tv,lv,rb,cms',q1,q2,q3,(b1.set 0 v).eq (by simp),ownsRow_keptU b2 kW (fun _ _=>by simp),ownsRow_keptU b3 kW (fun _ _=>by simp),b4.keptU' kW (fun M hM x=>hne M hM x.2) (by simp) (fun _ _=>by simp) (fun _ x=>Or.inl x),b5.keptU kW (fun _ _=>by simp),fun g e=>Or.inl (b6 g e),b7⟩ hcm (fun g e=>Or.inr e) .nil
end
end
end Go.Proofs.YtifkpibjeamfkaaGreatFmt
