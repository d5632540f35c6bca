/-
  What parseLineBlock's loop knows, and how it goes on.
-/
import Derived.Test.YtifkpibjeamfkaaGreatFmtZ17
set_option linter.unusedVariables false
set_option linter.unusedSimpArgs false
set_option maxRecDepth 100000
namespace Go.Proofs.YtifkpibjeamfkaaGreatFmt
section
open Go.RowKit Go.Proofs
theorem com_eq_no (n:Nat) (c b:Int) (s:ByteArray) (f:Bool) (w:World):(binOp .eql 194 (.agg #[.int .i64 (Int.ofNat (n+1)),.int .i64 c,.int .i64 b,.string s,.bool f]) (.agg #[.int .i64 0,.int .i64 0,.int .i64 0,.string ⟨#[]⟩,.bool false])).run Tryz.prog w=.ok (.bool false) w:=by kernel_rfl
theorem com_eq_yes (w:World):(binOp .eql 194 (.agg #[.int .i64 0,.int .i64 0,.int .i64 0,.string ⟨#[]⟩,.bool false]) (.agg #[.int .i64 0,.int .i64 0,.int .i64 0,.string ⟨#[]⟩,.bool false])).run Tryz.prog w=.ok (.bool true) w:=by kernel_rfl
theorem Tryz.infoPLine:(Tryz.prog.info? 92).map (fun i=>(i.zero,i.size,i.bytes))=some (some (.pointer none),1,8):=by kernel_rfl
theorem Tryz.und_plines:Tryz.prog.underlying 140=some (.slice 92):=by kernel_rfl
inductive Body:List Tk→List (Tk × List Tk)→Option (List Tk)→Prop
 | skip (c:Tk) (cs:List Tk) (ls:List (Tk × List Tk)) (r:Option (List Tk)) (h:c.k=-2∨c.k=10∨c.k=-5) (hb:Body cs ls r):Body (c :: cs) ls r
 | eof (c:Tk) (h:c.k=-1):Body [c] [] none
 | close (c e t:Tk) (cs:List Tk) (h:c.k=41) (he:EolK e):Body (c :: e :: t :: cs) [] (some (t :: cs))
 | line (c:Tk) (pre:List Tk) (e:Tk) (cs:List Tk) (ls:List (Tk × List Tk)) (r:Option (List Tk)) (h:NonE c) (h5:c.k≠-5) (h41:c.k≠41) (hp:∀ u ∈ pre,NonE u) (he:EolK e) (hb:Body cs ls r):Body (c :: (pre++e :: cs)) ((c,pre) :: ls) r
theorem Body.ne {l:List Tk} {ls:List (Tk × List Tk)} {r:Option (List Tk)} (h:Body l ls r):∃ d ds,l=d :: ds:=by
 cases h <;> exact ⟨_,_,rfl⟩
inductive LnsAt (N:Nat) (w:World) (T:List UInt8) (P:Nat→Prop):List Nat→List (Tk × List Tk)→Prop
 | nil:LnsAt N w T P [] []
 | cons {L:Nat} {Ls:List Nat} {l:Tk × List Tk} {ls:List (Tk × List Tk)} (bv:Value) (cs:List Cmt) (h:LnAt N w T L bv true l.1 l.2) (hc:CmB N w bv cs) (hp:∀ g,bv.ownBlock=some g→P g) (k:LnsAt N w T P Ls ls):LnsAt N w T P (L :: Ls) (l :: ls)
theorem LnsAt.keptU {N M:Nat} {S:Nat→TypeId→Prop} {w w':World} {T:List UInt8} {P Q:Nat→Prop} {Ls:List Nat} {ls:List (Tk × List Tk)} (h:LnsAt N w T P Ls ls) (k:Ku M S w w') (h1:∀ L,¬ S L 136) (h2:∀ g,¬ S g 9) (h3:∀ g,P g→¬ S g 194) (hq:∀ g,P g→Q g):LnsAt N w' T Q Ls ls:=by
 induction h with
 | nil=>exact .nil
 | cons bv cs h hc hp _ ih=>exact .cons bv cs (h.keptU k (h1 _) h2) (hc.keptU k (fun g e=>h3 g (hp g e))) (fun g e=>hq g (hp g e)) ih
theorem LnsAt.snoc {N:Nat} {w:World} {T:List UInt8} {P:Nat→Prop} {Ls:List Nat} {ls:List (Tk × List Tk)} {L:Nat} {l:Tk × List Tk} (h:LnsAt N w T P Ls ls) (bv:Value) (cs:List Cmt) (k:LnAt N w T L bv true l.1 l.2) (hc:CmB N w bv cs) (hp:∀ g,bv.ownBlock=some g→P g):LnsAt N w T P (Ls++[L]) (ls++[l]):=by
 induction h with
 | nil=>exact .cons bv cs k hc hp .nil
 | cons b c h hc' hp' _ ih=>exact .cons b c h hc' hp' ih
theorem LnsAt.len {N:Nat} {w:World} {T:List UInt8} {P:Nat→Prop} {Ls:List Nat} {ls:List (Tk × List Tk)} (h:LnsAt N w T P Ls ls):Ls.length=ls.length:=by
 induction h with
 | nil=>rfl
 | cons _ _ _ _ _ _ ih=>simp [ih]
theorem LnsAt.lt {N:Nat} {w:World} {T:List UInt8} {P:Nat→Prop} {Ls:List Nat} {ls:List (Tk × List Tk)} (h:LnsAt N w T P Ls ls):∀ L ∈ Ls,L < w.heap.size:=by
 induction h with
 | nil=>simp
 | cons bv cs h _ _ _ ih =>
   intro L hL
   rcases List.mem_cons.1 hL with rfl | hL
   · exact h.lt
   · exact ih L hL
def pv (L:Nat):Value:=.pointer (some ⟨L,0,none⟩)
def lbCells (a1 a2 a3 p1 p2 p3:Int) (tv lv rb:Value) (q1 q2 q3:Int):Array Value :=
 #[nilS,nilS,nilS,.int .i64 a1,.int .i64 a2,.int .i64 a3,nilS,nilS,nilS,.int .i64 p1,.int .i64 p2,.int .i64 p3,tv,lv,rb,nilS,nilS,.int .i64 q1,.int .i64 q2,.int .i64 q3]
def LocC (c:Cmt):Prop:=c=⟨0,0,0,[],false⟩∨∃ n,c.l=Int.ofNat (n+1)∧c.txt≠[]
structure PBI (N:Nat) (σ:Lx) (w:World) (P:Nat→Prop) (X:Nat) (a1 a2 a3 p1 p2 p3:Int) (tv:Value) (Q:Nat→Prop) (c:Tk) (v10:Value) (cms:List Cmt) (lv:Value) (Ls:List Nat) (dn:List (Tk × List Tk)) (wr:World):Prop where
 ps:PsAt N wr σ c (fun k=>Q k∨v10.ownBlock=some k)
 sub:∀ k,P k→Q k
 lt:∀ k,Q k→k < wr.heap.size
 com:CmAt N wr v10 cms
 loc:∀ x ∈ cms,LocC x
 nil:cms=[]→v10=nilS
 out:∀ g,v10.ownBlock=some g→¬ Q g
 blk:Blk wr X 143 (lbCells a1 a2 a3 p1 p2 p3 tv lv nilS 0 0 0)
 own:wr.ownsRow w.heap.size 92 1 lv Ls.length (Ls.map pv)
 lns:LnsAt N wr σ.T Q Ls dn
 inc:Ls.Pairwise (· < ·)
 old:∀ L ∈ Ls,w.heap.size≤L
 ku:Ku N (LexP P) w wr
section
variable {N:Nat} {σ:Lx} {w:World} {P:Nat→Prop} {X:Nat} {a1 a2 a3 p1 p2 p3:Int} {tv:Value} {Q:Nat→Prop} {c:Tk} {v10:Value} {cms:List Cmt} {lv:Value} {Ls:List Nat} {dn:List (Tk × List Tk)} {wr:World}
theorem PBI.ltAll (h:PBI N σ w P X a1 a2 a3 p1 p2 p3 tv Q c v10 cms lv Ls dn wr):∀ k,(Q k∨v10.ownBlock=some k)→k < wr.heap.size :=
 fun k e=>e.elim (h.lt k) (fun e=>(h.com.lt k e).2)
theorem PBI.lexed {c':Tk} {w2:World} (h:PBI N σ w P X a1 a2 a3 p1 p2 p3 tv Q c v10 cms lv Ls dn wr) (k:Ku N (LexP (fun k=>Q k∨v10.ownBlock=some k)) wr w2) (hp:PsAt N w2 σ c' (fun k=>Q k∨v10.ownBlock=some k)):PBI N σ w P X a1 a2 a3 p1 p2 p3 tv Q c' v10 cms lv Ls dn w2 :=
 ⟨hp,h.sub,fun g hg=>Nat.lt_of_lt_of_le (h.lt g hg) k.size,h.com.keptU k (fun g e=>fun x=>x.elim (fun x=>absurd x (by decide)) (fun x=>x.2 (Or.inr e))),h.loc,h.nil,h.out,h.blk.keptU k (by simp [LexP]),ownsRow_keptU h.own k (fun _ _=>by simp [LexP]),
   h.lns.keptU k (fun _=>by simp [LexP]) (fun _=>by simp [LexP]) (fun g hg=>fun x=>x.elim (fun x=>absurd x (by decide)) (fun x=>x.2 (Or.inl hg))) (fun _ x=>x),h.inc,h.old,h.ku.trans (k.mono (fun i t x=>x.elim Or.inl (fun x=>Or.inr ⟨x.1,fun hP=>x.2 (Or.inl (h.sub i hP))⟩)))⟩
theorem PBI.quiet {w2:World} (h:PBI N σ w P X a1 a2 a3 p1 p2 p3 tv Q c v10 cms lv Ls dn wr) (k:Ku N (fun _ _=>False) wr w2):PBI N σ w P X a1 a2 a3 p1 p2 p3 tv Q c v10 cms lv Ls dn w2 :=
 h.lexed (k.mono (fun _ _ x=>x.elim)) (h.ps.keptU k id id (fun _ x=>x.elim))
theorem PBI.alloc (h:PBI N σ w P X a1 a2 a3 p1 p2 p3 tv Q c v10 cms lv Ls dn wr) (hN:N≤wr.heap.size) (o:Obj):PBI N σ w P X a1 a2 a3 p1 p2 p3 tv Q c v10 cms lv Ls dn (wr.alloc o) :=
 h.quiet ((Ku.refl _ _ _).alloc hN o)
theorem PBI.comment {w3:World} {o:Obj} {g cap n:Nat} {x:Cmt} {H:Nat}
   (h:PBI N σ w P X a1 a2 a3 p1 p2 p3 tv Q c v10 cms lv Ls dn wr) (hN:N≤wr.heap.size) (hx:x.ok) (hl:LocC x) (hn:n=cms.length+1) (hown:w3.ownsRow N 194 5 (.slice (some ⟨g,0,none⟩) n cap) n (cvals cms++x.vals)) (hg:(wr.alloc o).grownBy w3 v10.ownBlock) (hat:v10.ownBlock=some g∨g=H) (hH:wr.heap.size≤H) (hlt:g < w3.heap.size) :
   PBI N σ w P X a1 a2 a3 p1 p2 p3 tv Q c (.slice (some ⟨g,0,none⟩) n cap) (cms++[x]) lv Ls dn w3:=by
 have k0:Ku N (fun i t=>t=194∧v10.ownBlock=some i) wr (wr.alloc o):=(Ku.refl _ _ _).alloc hN o
 have k:Ku N (fun i t=>t=194∧v10.ownBlock=some i) wr w3:=k0.trans (Ku.of_append (h.com.1.alloc o) hg (by simp;omega) (fun g e=>⟨rfl,e⟩))
 refine ⟨?_,h.sub,fun q hq=>Nat.lt_of_lt_of_le (h.lt q hq) k.size,⟨?_,?_⟩,?_,?_,?_,h.blk.keptU k (fun e=>absurd e.1 (by decide)),ownsRow_keptU h.own k (fun _ _ e=>absurd e.1 (by decide)),
   h.lns.keptU k (fun _ e=>absurd e.1 (by decide)) (fun _ e=>absurd e.1 (by decide)) (fun q hq e=>h.out q e.2 hq) (fun _ x=>x),h.inc,h.old,h.ku.trans' k (fun i t _ e=>Or.inr ⟨e.1,fun hP=>h.out i e.2 (h.sub i hP)⟩)⟩
 · refine ((h.ps.future).keptU k (fun e=>absurd e.1 (by decide)) (fun e=>absurd e.1 (by decide)) (fun q e=>Or.inl (Or.inr e.2))).mono ?_
   rintro q (hq | hq)
   · exact Or.inl (Or.inl hq)
   · simp only [Value.ownBlock,Option.some.injEq] at hq
     subst hq
     rcases hat with e | e
     · exact Or.inl (Or.inr e)
     · exact Or.inr (by omega)
 · subst hn
   rw [List.length_append,cvals_append]
   simpa [cvals] using hown
 · intro y hy
   rcases List.mem_append.1 hy with hy | hy
   · exact h.com.2 y hy
   · obtain rfl:=List.mem_singleton.1 hy
     exact hx
 · intro y hy
   rcases List.mem_append.1 hy with hy | hy
   · exact h.loc y hy
   · obtain rfl:=List.mem_singleton.1 hy
     exact hl
 · intro e;simp at e
 · intro q hq hQ
   simp only [Value.ownBlock,Option.some.injEq] at hq
   subst hq
   rcases hat with e | e
   · exact h.out _ e hQ
   · have:=h.lt _ hQ;omega
theorem PBI.line {w2 w3:World} {o:Obj} {g cap n L:Nat} {l:Tk × List Tk} {c':Tk}
   (h:PBI N σ w P X a1 a2 a3 p1 p2 p3 tv Q c' v10 cms lv Ls dn w2) (hL:LnAt N w2 σ.T L nilS true l.1 l.2) (hLs:∀ M ∈ Ls,M < L) (hLw:w.heap.size≤L) (hX:w.heap.size≤X) (hN:N≤w.heap.size) (hw2:w.heap.size≤w2.heap.size) (hn:n=Ls.length+1)
   (hown:w3.ownsRow w.heap.size 92 1 (.slice (some ⟨g,0,none⟩) n cap) n (Ls.map pv++[pv L])) (hg:(w2.alloc o).grownBy w3 lv.ownBlock) (hcl:cms.length≤1000100) :
   PBI N σ w P X a1 a2 a3 p1 p2 p3 tv (fun k=>Q k∨v10.ownBlock=some k) c' nilS [] (.slice (some ⟨g,0,none⟩) n cap) (Ls++[L]) (dn++[l]) ((w3.setCell ⟨X,13,none⟩ (.slice (some ⟨g,0,none⟩) n cap)).setCell ⟨L,0,none⟩ v10):=by
 have hN2:N≤w2.heap.size:=by omega
 have k0:Ku N (fun i t=>t=92) w2 (w2.alloc o):=(Ku.refl _ _ _).alloc hN2 o
 have k1:Ku N (fun i t=>t=92) w2 w3:=k0.trans (Ku.of_append (own_low (h.own.alloc o) hN) hg (by simp;omega) (fun g e=>rfl))
 obtain ⟨ltv,hLb,hLo⟩:=hL
 have hX3:=h.blk.keptU k1 (by decide)
 have hL3:=hLb.keptU k1 (by decide)
 have hXL:X≠L:=hX3.ne hL3 (by decide)
 have k2:Ku N (fun i t=>t=92∨t=143∨(t=136∧i=L)) w2 ((w3.setCell ⟨X,13,none⟩ (.slice (some ⟨g,0,none⟩) n cap)).setCell ⟨L,0,none⟩ v10):=by
   refine Ku.set_blk ?_ (by omega) hLb (Or.inr (Or.inr ⟨rfl,rfl⟩))
   refine Ku.set_blk ?_ (by omega) h.blk (Or.inr (Or.inl rfl))
   exact k1.mono (fun _ _ e=>Or.inl e)
 have k3:Ku w.heap.size (fun i t=>t=143∨t=136) w3 ((w3.setCell ⟨X,13,none⟩ (.slice (some ⟨g,0,none⟩) n cap)).setCell ⟨L,0,none⟩ v10):=by
   refine Ku.set_blk ?_ hLw hL3 (Or.inr rfl)
   refine Ku.set_blk ?_ hX hX3 (Or.inl rfl)
   exact Ku.refl _ _ _
 have hXs:=(hX3.set 13 (.slice (some ⟨g,0,none⟩) n cap)).set_other (a:=⟨L,0,none⟩) hXL v10
 have hLs2:=(hL3.set_other (a:=⟨X,13,none⟩) hXL.symm (.slice (some ⟨g,0,none⟩) n cap)).set 0 v10
 have hc2:=h.com.keptU k2 (fun q e x=>x.elim (fun x=>absurd x (by decide)) (fun x=>x.elim (fun x=>absurd x (by decide)) (fun x=>absurd x.1 (by decide))))
 refine ⟨?_,fun k e=>Or.inl (h.sub k e),fun k e=>Nat.lt_of_lt_of_le (h.ltAll k e) k2.size,CmAt.nil _ _,by simp,fun _=>rfl,fun q e=>by simp [nilS,Value.ownBlock] at e,hXs.eq (by simp [lbCells]),?_,?_,?_,?_,?_⟩
 · refine (h.ps.keptU k2 (by simp) (by simp) (fun q x=>?_)).mono ?_
   · rcases x with x | x | x
     · exact absurd x (by decide)
     · exact absurd x (by decide)
     · exact absurd x.1 (by decide)
   · rintro k (hk | hk)
     · exact hk
     · simp [nilS,Value.ownBlock] at hk
 · subst hn
   have:=ownsRow_keptU hown k3 (fun _ _ x=>x.elim (fun x=>absurd x (by decide)) (fun x=>absurd x (by decide)))
   simpa using this
 · have hl1:LnsAt N ((w3.setCell ⟨X,13,none⟩ (.slice (some ⟨g,0,none⟩) n cap)).setCell ⟨L,0,none⟩ v10) σ.T (fun k=>Q k∨v10.ownBlock=some k) Ls dn:=by
     have:=h.lns
     clear hn hown k3 hXs
     revert hLs
     clear h
     intro hLs
     induction this with
     | nil=>exact .nil
     | cons bv cs a b d _ ih =>
       have hM:=hLs _ (List.mem_cons_self ..)
       refine .cons bv cs (a.keptU k2 ?_ (fun q x=>x.elim (fun x=>absurd x (by decide)) (fun x=>x.elim (fun x=>absurd x (by decide)) (fun x=>absurd x.1 (by decide))))) (b.keptU k2 (fun q e x=>x.elim (fun x=>absurd x (by decide)) (fun x=>x.elim (fun x=>absurd x (by decide)) (fun x=>absurd x.1 (by decide))))) (fun q e=>Or.inl (d q e)) (ih (fun M hM=>hLs M (List.mem_cons_of_mem _ hM)))
       rintro (x | x | x)
       · exact absurd x (by decide)
       · exact absurd x (by decide)
       · omega
   refine hl1.snoc v10 cms ⟨ltv,hLs2.eq (by simp),ownsRow_keptU hLo k2 (fun q e x=>x.elim (fun x=>absurd x (by decide)) (fun x=>x.elim (fun x=>absurd x (by decide)) (fun x=>absurd x.1 (by decide))))⟩ ⟨hc2,hcl⟩ (fun q e=>Or.inr e)
 · rw [List.pairwise_append]
   exact ⟨h.inc,by simp,fun a ha b hb=>by obtain rfl:=List.mem_singleton.1 hb;exact hLs a ha⟩
 · intro M hM
   rcases List.mem_append.1 hM with hM | hM
   · exact h.old M hM
   · obtain rfl:=List.mem_singleton.1 hM
     exact hLw
 · refine ⟨h.ku.below.trans k2.below,fun i ds t fz e hn=>?_⟩
   have h1:=h.ku.keep i ds t fz e hn
   have hi:i < w.heap.size:=(Array.getElem?_eq_some_iff.1 e).1
   have kb:Below w.heap.size w2 ((w3.setCell ⟨X,13,none⟩ (.slice (some ⟨g,0,none⟩) n cap)).setCell ⟨L,0,none⟩ v10):=by
     have b0:Below w.heap.size w2 (w2.alloc o):=(Below.refl _ w2).alloc hw2 o
     have b1:Below w.heap.size w2 w3:=b0.grown hg (Nat.le_trans hw2 b0.size) (fun q e=>(h.own.lt q e).1)
     exact (b1.setCell hX _).setCell hLw _
   exact (kb.block i hi).trans h1
theorem owns_ne {N:Nat} {w:World} {e:TypeId} {size n:Nat} {v:Value} {xs:List Value} {b:Nat} {t:TypeId} {ds:Array Value} (h:w.ownsRow N e size v n xs) (hb:Blk w b t ds) (ht:t≠e) (hv:v.ownBlock=some b):False:=by
 rcases h.2 with ⟨rfl,_⟩ | ⟨g,cap,cur,rfl,hg,hh,r⟩
 · simp [Value.ownBlock] at hv
 · simp only [Value.ownBlock,Option.some.injEq] at hv
   subst hv
   have h1:=hb.out
   rw [hh] at h1
   injection h1 with h1
   injection h1 with _ h1
   exact ht h1.symm
theorem PBI.notRow (h:PBI N σ w P X a1 a2 a3 p1 p2 p3 tv Q c v10 cms lv Ls dn wr):¬ (some X=lv.ownBlock):=fun e=>owns_ne h.own h.blk (by decide) e.symm
theorem PBI.close (h:PBI N σ w P X a1 a2 a3 p1 p2 p3 tv Q c v10 cms lv Ls dn wr) (rb:Value) (hrb:rb=v10∨rb=nilS) (o:Obj) (q1 q2 q3:Int) (hX:w.heap.size≤X) (hNw:N≤w.heap.size) (hw:w.heap.size≤wr.heap.size) (W:World)
   (hW:W=((((wr.setCell ⟨X,14,none⟩ rb).setCell ⟨X,17,none⟩ (.int .i64 q1)).setCell ⟨X,18,none⟩ (.int .i64 q2)).setCell ⟨X,19,none⟩ (.int .i64 q3)).alloc o) :
   PsAt N W σ c (fun k=>Q k∨v10.ownBlock=some k)∧(∀ k,(Q k∨v10.ownBlock=some k)→k < W.heap.size)∧Blk W X 143 (lbCells a1 a2 a3 p1 p2 p3 tv lv rb q1 q2 q3)∧W.ownsRow w.heap.size 92 1 lv Ls.length (Ls.map pv) ∧
     LnsAt N W σ.T (fun k=>Q k∨v10.ownBlock=some k) Ls dn∧(∃ cmr,CmAt N W rb cmr)∧(∀ g,rb.ownBlock=some g→(Q g∨v10.ownBlock=some g))∧Ku N (LexP P) w W:=by
 have h1:=h
 have k2:Ku N (fun i t=>t=143) wr W:=by
   subst hW
   refine Ku.alloc ?_ (by omega) _
   refine Ku.set_blk ?_ (by omega) h1.blk rfl
   refine Ku.set_blk ?_ (by omega) h1.blk rfl
   refine Ku.set_blk ?_ (by omega) h1.blk rfl
   refine Ku.set_blk ?_ (by omega) h1.blk rfl
   exact Ku.refl _ _ _
 have kb:Below w.heap.size wr W:=by
   subst hW
   have:=((((Below.refl w.heap.size wr).setCell (p:=⟨X,14,none⟩) hX rb).setCell (p:=⟨X,17,none⟩) hX (.int .i64 q1)).setCell (p:=⟨X,18,none⟩) hX (.int .i64 q2)).setCell (p:=⟨X,19,none⟩) hX (.int .i64 q3)
   exact this.alloc (Nat.le_trans hw this.size) o
 have hbl:Blk W X 143 (lbCells a1 a2 a3 p1 p2 p3 tv lv rb q1 q2 q3):=by
   subst hW
   exact (((((h1.blk.set 14 _).set 17 _).set 18 _).set 19 _).eq (by simp [lbCells])).alloc _
 have hcm:=h1.com.keptU k2 (fun g e x=>absurd x (by decide))
 refine ⟨h1.ps.keptU k2 (by simp) (by simp) (fun g x=>absurd x (by decide)),fun k e=>Nat.lt_of_lt_of_le (h1.ltAll k e) k2.size,hbl,ownsRow_keptU h1.own k2 (fun _ _ x=>absurd x (by decide)),
   h1.lns.keptU k2 (fun _ x=>absurd x (by decide)) (fun _ x=>absurd x (by decide)) (fun _ _ x=>absurd x (by decide)) (fun _ x=>Or.inl x),?_,?_,?_⟩
 · rcases hrb with rfl | rfl
   · exact ⟨cms,hcm⟩
   · exact ⟨[],CmAt.nil _ _⟩
 · intro g e
   rcases hrb with rfl | rfl
   · exact Or.inr e
   · simp [nilS,Value.ownBlock] at e
 · refine ⟨h1.ku.below.trans k2.below,fun i ds t fz e hn=>?_⟩
   have h2:=h1.ku.keep i ds t fz e hn
   exact (kb.block i (Array.getElem?_eq_some_iff.1 e).1).trans h2
end
end
end Go.Proofs.YtifkpibjeamfkaaGreatFmt
