/-
  What assignComments knows while it lays comments behind expressions.
  reverseComments at any comments.
-/
import Derived.Test.YtifkpibjeamfkaaGreatFmtZ26
set_option linter.unusedVariables false
set_option linter.unusedSimpArgs false
set_option maxRecDepth 100000
namespace Go.Proofs.YtifkpibjeamfkaaGreatFmt
section
open Go.RowKit Go.Proofs
def Ex.slot (e:Ex):Addr:=⟨e.addr.block,e.addr.off+1,none⟩
def Ex.ty:Ex→TypeId
 | .file _=>129
 | .cb _=>201
 | .ln _=>136
 | .bk _=>143
 | .lp _=>143
 | .rp _=>143
theorem Ex.slotZ (e:Ex):SlotZ e.ty (e.addr.off+1):=by cases e <;> simp [SlotZ,Ex.ty,Ex.addr]
theorem Ex.tyNe (e:Ex):e.ty≠194∧e.ty≠155:=by cases e <;> simp [Ex.ty]
def upd (f:Addr→Value) (a:Addr) (v:Value):Addr→Value:=fun b=>if b=a then v else f b
@[simp] theorem upd_same (f:Addr→Value) (a:Addr) (v:Value):upd f a v a=v:=by simp [upd]
theorem upd_ne {f:Addr→Value} {a b:Addr} {v:Value} (h:b≠a):upd f a v b=f b:=by simp [upd,h]
def ExB (w:World) (e:Ex):Prop:=∃ cs,Blk w e.addr.block e.ty cs
theorem Sq.ku {N M:Nat} {S:Nat→TypeId→Prop} {a b c:World} (h:Sq N a b) (k:Ku M S b c) (kb:Below N b c) (hs:∀ i t,S i t→t=155∨a.heap.size≤i):Sq N a c:=by
 refine ⟨h.below.trans kb,fun i cs t fz he ht=>?_⟩
 obtain ⟨cs1,h1,h2,h3⟩:=h.keep i cs t fz he ht
 refine ⟨cs1,k.keep i cs1 t fz h1 (fun x=>?_),h2,h3⟩
 rcases hs i t x with e | e
 · exact ht e
 · have:=(Array.getElem?_eq_some_iff.1 he).1;omega
structure AcSt (N:Nat) (w0:World) (es:List Ex) (sv:Addr→Value) (sf:Value) (ss:List Cmt) (w:World):Prop where
 sq:Sq N w0 w
 here:∀ e ∈ es,ExB w0 e
 slot:∀ e ∈ es,w.cell? e.slot=some (sv e.addr)
 com:∀ e ∈ es,∃ cs,CmAt w0.heap.size w (sv e.addr) cs∧cs.length+ss.length≤900000
 sfx:CmAt w0.heap.size w sf ss
 apart:∀ e ∈ es,∀ e' ∈ es,e.addr≠e'.addr→Apart (sv e.addr) (sv e'.addr)
 apart2:∀ e ∈ es,Apart (sv e.addr) sf
section
variable {N:Nat} {w0 w:World} {es:List Ex} {sv:Addr→Value} {sf:Value} {ss:List Cmt}
theorem AcSt.exb (h:AcSt N w0 es sv sf ss w) {e:Ex} (he:e ∈ es):ExB w e:=by
 obtain ⟨cs,hb⟩:=h.here e he
 obtain ⟨cs',hb',_⟩:=h.sq.blk hb e.tyNe.2
 exact ⟨cs',hb'⟩
theorem AcSt.quiet {M:Nat} {S:Nat→TypeId→Prop} {w':World} (h:AcSt N w0 es sv sf ss w) (k:Ku M S w w') (kb:Below N w w') (hs:∀ i t,S i t→t=155∨w0.heap.size≤i) (h1:∀ i,¬ S i 194):AcSt N w0 es sv sf ss w':=by
 refine ⟨h.sq.ku k kb hs,h.here,fun e he=>?_,fun e he=>?_,h.sfx.keptU k (fun g _=>h1 g),h.apart,h.apart2⟩
 · obtain ⟨cs,hb⟩:=h.exb he
   have hlt:e.addr.block < w0.heap.size:=by obtain ⟨cs0,hb0⟩:=h.here e he;exact hb0.lt
   have hb':=hb.keptU k (fun x=>by
     rcases hs _ _ x with e1 | e1
     · exact e.tyNe.2 e1
     · omega)
   have:=h.slot e he
   unfold Ex.slot at this ⊢
   rw [cell_heap (hb'.out.trans hb.out.symm)]
   exact this
 · obtain ⟨cs,hc,hl⟩:=h.com e he
   exact ⟨cs,hc.keptU k (fun g _=>h1 g),hl⟩
theorem AcSt.drop {g cap n:Nat} {ss':List Cmt} {c:Cmt} (h:AcSt N w0 es sv (.slice (some ⟨g,0,none⟩) (n+1) cap) (ss'++[c]) w) (hn:ss'.length=n):AcSt N w0 es sv (.slice (some ⟨g,0,none⟩) n cap) ss' w:=by
 refine ⟨h.sq,h.here,h.slot,fun e he=>?_,⟨?_,fun x hx=>h.sfx.2 x (List.mem_append_left _ hx)⟩,h.apart,h.apart2⟩
 · obtain ⟨cs,hc,hl⟩:=h.com e he
   exact ⟨cs,hc,by simp at hl;omega⟩
 · obtain ⟨h1,h2⟩:=h.sfx.1
   refine ⟨by rw [cvals_len],?_⟩
   rcases h2 with ⟨h2,_⟩ | ⟨g',cap',cur,e,hg,hh,r1,r2,r3,r4⟩
   · cases h2
   · right
     simp only [Value.slice.injEq,Option.some.injEq,Addr.mk.injEq,and_true] at e
     obtain ⟨rfl,e2,rfl⟩:=e
     refine ⟨g,cap,cur,by rw [hn],hg,hh,by rw [← e2] at r1;omega,r2,r3,?_⟩
     have:=r4
     rw [cvals_append] at this
     have hl:ss'.length * 5=(cvals ss').length:=by rw [cvals_len]
     have h5:(ss'++[c]).length * 5=(cvals ss').length+5:=by simp [cvals_len];omega
     rw [h5] at this
     rw [hl]
     have h6:=congrArg (List.take (cvals ss').length) this
     rw [List.take_take,Nat.min_eq_left (Nat.le_add_right _ _),List.take_append_of_le_length (Nat.le_refl _),List.take_length] at h6
     exact h6
theorem AcSt.add {x:Ex} {W w3:World} {g cap n H:Nat} {cs:List Cmt} {c:Cmt} (h:AcSt N w0 es sv sf ss w) (hx:x ∈ es) (hN:N≤w0.heap.size) (hNx:N≤x.addr.block) (hc:CmAt w0.heap.size w (sv x.addr) cs) (hl:cs.length+1+ss.length≤900001) (hok:c.ok) (hn:n=cs.length+1)
   (k3:Ku w0.heap.size (fun i u=>u=194∧(sv x.addr).ownBlock=some i) w w3) (hown:w3.ownsRow w0.heap.size 194 5 (.slice (some ⟨g,0,none⟩) n cap) n (cvals cs++c.vals)) (hat:(sv x.addr).ownBlock=some g∨g=H) (hH:w.heap.size≤H)
   (hW:W=w3.setCell x.slot (.slice (some ⟨g,0,none⟩) n cap)) (hss:∀ e ∈ es,e.addr≠x.addr→∃ ds,CmAt w0.heap.size w (sv e.addr) ds∧ds.length+ss.length≤900000) (hl2:cs.length+1+ss.length≤900000) :
   AcSt N w0 es (upd sv x.addr (.slice (some ⟨g,0,none⟩) n cap)) sf ss W:=by
 subst hW
 obtain ⟨xs,hxb⟩:=h.exb hx
 have hxlt:x.addr.block < w0.heap.size:=by obtain ⟨cs0,hb0⟩:=h.here x hx;exact hb0.lt
 have hx3:=hxb.keptU k3 (fun e=>x.tyNe.1 e.1)
 have hrow:∀ i,(sv x.addr).ownBlock=some i→w0.heap.size≤i∧i < w.heap.size:=fun i e=>hc.lt i e
 have ks:Ku N (fun i u=>u=x.ty∧i=x.addr.block) w3 (w3.setCell x.slot (.slice (some ⟨g,0,none⟩) n cap)):=by
   unfold Ex.slot
   refine Ku.set_blk (Ku.refl _ _ _) hNx hx3 ⟨rfl,rfl⟩
 have kc:∀ {v:Value} {ds:List Cmt},CmAt w0.heap.size w3 v ds→CmAt w0.heap.size (w3.setCell x.slot (.slice (some ⟨g,0,none⟩) n cap)) v ds:=fun hd=>hd.keptU ks (fun i _ e=>x.tyNe.1 e.1.symm)
 have hoth:∀ {v:Value} {ds:List Cmt},CmAt w0.heap.size w v ds→Apart (sv x.addr) v→CmAt w0.heap.size w3 v ds:=fun hd ha=>hd.keptU k3 (fun i e y=>ha i y.2 e)
 have hfresh:∀ {v:Value} {ds:List Cmt},CmAt w0.heap.size w v ds→Apart (sv x.addr) v→Apart (.slice (some ⟨g,0,none⟩) n cap) v:=by
   intro v ds hd ha i e e2
   simp only [Value.ownBlock,Option.some.injEq] at e
   subst e
   rcases hat with h1 | h1
   · exact ha _ h1 e2
   · have:=(hd.lt _ e2).2;omega
 have hnew:CmAt w0.heap.size (w3.setCell x.slot (.slice (some ⟨g,0,none⟩) n cap)) (.slice (some ⟨g,0,none⟩) n cap) (cs++[c]):=by
   refine kc ⟨?_,fun y hy=>?_⟩
   · rw [cvals_append,List.length_append,List.length_singleton,← hn]
     simpa [cvals] using hown
   · rcases List.mem_append.1 hy with hy | hy
     · exact hc.2 y hy
     · obtain rfl:=List.mem_singleton.1 hy
       exact hok
 refine ⟨?_,h.here,fun e he=>?_,fun e he=>?_,kc (hoth h.sfx (h.apart2 x hx)),fun e he e' he' hne=>?_,fun e he=>?_⟩
 · have h1:Sq N w0 w3:=h.sq.ku k3 (k3.below.mono hN) (fun i t e=>Or.inr (hrow i e.2).1)
   unfold Ex.slot
   exact h1.slot hNx hx3 x.slotZ _
 · by_cases hea:e.addr=x.addr
   · have:e.slot=x.slot:=by unfold Ex.slot;rw [hea]
     rw [hea,upd_same,this]
     have hcell:=h.slot x hx
     have h3:w3.cell? x.slot=some (sv x.addr):=by
       unfold Ex.slot at hcell ⊢
       rw [cell_heap (hx3.out.trans hxb.out.symm)]
       exact hcell
     exact World.cell?_setCell_same _ _ _ h3
   · rw [upd_ne hea]
     obtain ⟨ys,hyb⟩:=h.exb he
     have hy3:=hyb.keptU k3 (fun y=>e.tyNe.1 y.1)
     have h1:w3.cell? e.slot=some (sv e.addr):=by
       have:=h.slot e he
       unfold Ex.slot at this ⊢
       rw [cell_heap (hy3.out.trans hyb.out.symm)]
       exact this
     have hse:e.slot≠x.slot:=by
       unfold Ex.slot
       intro h2
       simp only [Addr.mk.injEq,and_true] at h2
       apply hea
       have e1:e.addr=⟨e.addr.block,e.addr.off,none⟩:=by cases e <;> rfl
       have e2:x.addr=⟨x.addr.block,x.addr.off,none⟩:=by cases x <;> rfl
       rw [e1,e2,h2.1,show e.addr.off=x.addr.off by omega]
     rw [World.cell?_setCell_other _ _ _ _ (fun y=>hse y.symm)]
     exact h1
 · by_cases hea:e.addr=x.addr
   · rw [hea,upd_same]
     exact ⟨_,hnew,by simp;omega⟩
   · rw [upd_ne hea]
     obtain ⟨ds,hd,hdl⟩:=hss e he hea
     exact ⟨ds,kc (hoth hd (h.apart x hx e he (fun y=>hea y.symm))),hdl⟩
 · by_cases hea:e.addr=x.addr
   · rw [hea,upd_same]
     have hne':e'.addr≠x.addr:=fun y=>hne (hea.trans y.symm)
     rw [upd_ne hne']
     obtain ⟨ds,hd,_⟩:=h.com e' he'
     exact hfresh hd (h.apart x hx e' he' (fun y=>hne' y.symm))
   · rw [upd_ne hea]
     by_cases hea':e'.addr=x.addr
     · rw [hea',upd_same]
       obtain ⟨ds,hd,_⟩:=h.com e he
       exact (hfresh hd (h.apart x hx e he (fun y=>hea y.symm))).symm
     · rw [upd_ne hea']
       exact h.apart e he e' he' hne
 · by_cases hea:e.addr=x.addr
   · rw [hea,upd_same]
     exact hfresh h.sfx (h.apart2 x hx)
   · rw [upd_ne hea]
     exact h.apart2 e he
theorem AcSt.rev {x:Ex} {w':World} {cs':List Cmt} (h:AcSt N w0 es sv sf ss w) (hx:x ∈ es) (hN:N≤w0.heap.size) (k3:Ku w0.heap.size (fun i u=>u=194∧(sv x.addr).ownBlock=some i) w w') (hc:CmAt w0.heap.size w' (sv x.addr) cs') (hl:cs'.length+ss.length≤900000):AcSt N w0 es sv sf ss w':=by
 obtain ⟨cs0,hc0,_⟩:=h.com x hx
 have hoth:∀ {v:Value} {ds:List Cmt},CmAt w0.heap.size w v ds→Apart (sv x.addr) v→CmAt w0.heap.size w' v ds:=fun hd ha=>hd.keptU k3 (fun i e y=>ha i y.2 e)
 refine ⟨h.sq.ku k3 (k3.below.mono hN) (fun i t e=>Or.inr (hc0.lt i e.2).1),h.here,fun e he=>?_,fun e he=>?_,hoth h.sfx (h.apart2 x hx),h.apart,h.apart2⟩
 · obtain ⟨ys,hyb⟩:=h.exb he
   have hy3:=hyb.keptU k3 (fun y=>e.tyNe.1 y.1)
   have:=h.slot e he
   unfold Ex.slot at this ⊢
   rw [cell_heap (hy3.out.trans hyb.out.symm)]
   exact this
 · by_cases hea:e.addr=x.addr
   · rw [hea];exact ⟨cs',hc,hl⟩
   · obtain ⟨ds,hd,hdl⟩:=h.com e he
     exact ⟨ds,hoth hd (h.apart x hx e he (fun y=>hea y.symm)),hdl⟩
end
end
section
open Go.RowKit Go.Proofs
theorem CmAt.cells {M g cap n:Nat} {w:World} {cs:List Cmt} (h:CmAt M w (.slice (some ⟨g,0,none⟩) n cap) cs) (hn:cs.length=n) {i:Nat} {c:Cmt} (hi:cs[i]?=some c) :
   w.cell? ⟨g,i * 5,none⟩=some (.int .i64 c.l)∧w.cell? ⟨g,i * 5+1,none⟩=some (.int .i64 c.c)∧w.cell? ⟨g,i * 5+2,none⟩=some (.int .i64 c.b)∧w.cell? ⟨g,i * 5+3,none⟩=some (.string (mkS c.txt))∧w.cell? ⟨g,i * 5+4,none⟩=some (.bool c.suf):=by
 have hlt:=(List.getElem?_eq_some_iff.1 hi).1
 have hv:∀ q,q < 5→(cvals cs)[i * 5+q]?=c.vals[q]?:=by
   clear h hn
   intro q hq
   induction cs generalizing i with
   | nil=>simp at hi
   | cons a tl ih =>
     have hc:cvals (a :: tl)=a.vals++cvals tl:=by simp [cvals]
     have hal:a.vals.length=5:=by simp [Cmt.vals]
     cases i with
     | zero =>
       simp only [List.getElem?_cons_zero,Option.some.injEq] at hi
       subst hi
       rw [hc,List.getElem?_append_left (by omega)]
       simp
     | succ i =>
       simp only [List.getElem?_cons_succ] at hi
       rw [hc,List.getElem?_append_right (by omega),hal,show (i+1) * 5+q - 5=i * 5+q by omega]
       exact ih hi (by simpa using hlt)
 have hr:=h.1
 rw [hn] at hr
 refine ⟨?_,?_,?_,?_,?_⟩
 · rw [hr.cellAt (i * 5) (by omega)];exact hv 0 (by omega)
 · rw [hr.cellAt (i * 5+1) (by omega)];exact hv 1 (by omega)
 · rw [hr.cellAt (i * 5+2) (by omega)];exact hv 2 (by omega)
 · rw [hr.cellAt (i * 5+3) (by omega)];exact hv 3 (by omega)
 · rw [hr.cellAt (i * 5+4) (by omega)];exact hv 4 (by omega)
def put5 (w:World) (g i:Nat) (c:Cmt):World :=
 ((((w.setCell ⟨g,i * 5,none⟩ (.int .i64 c.l)).setCell ⟨g,i * 5+1,none⟩ (.int .i64 c.c)).setCell ⟨g,i * 5+2,none⟩ (.int .i64 c.b)).setCell ⟨g,i * 5+3,none⟩ (.string (mkS c.txt))).setCell ⟨g,i * 5+4,none⟩ (.bool c.suf)
theorem cvals_set (cs:List Cmt) (i:Nat) (c:Cmt) (hi:i < cs.length):cvals (cs.set i c)=(((((cvals cs).set (i * 5) (.int .i64 c.l)).set (i * 5+1) (.int .i64 c.c)).set (i * 5+2) (.int .i64 c.b)).set (i * 5+3) (.string (mkS c.txt))).set (i * 5+4) (.bool c.suf):=by
 induction cs generalizing i with
 | nil=>simp at hi
 | cons a tl ih =>
   have hc:∀ (x:Cmt) (xs:List Cmt),cvals (x :: xs)=.int .i64 x.l :: .int .i64 x.c :: .int .i64 x.b :: .string (mkS x.txt) :: .bool x.suf :: cvals xs:=by intro x xs;simp [cvals,Cmt.vals]
   cases i with
   | zero=>rw [List.set_cons_zero,hc,hc];simp
   | succ i =>
     rw [List.set_cons_succ,hc,hc,ih i (by simpa using hi)]
     rw [show (i+1) * 5=i * 5+5 by omega]
     simp [show ∀ a b:Nat,i * 5+a+b=i * 5+b+a from fun a b=>by omega]
theorem CmAt.put {M g cap n i:Nat} {w:World} {cs:List Cmt} {c:Cmt} (h:CmAt M w (.slice (some ⟨g,0,none⟩) n cap) cs) (hn:cs.length=n) (hi:i < n) (hc:c.ok):CmAt M (put5 w g i c) (.slice (some ⟨g,0,none⟩) n cap) (cs.set i c):=by
 refine ⟨?_,fun x hx=>?_⟩
 · rw [List.length_set,hn,cvals_set cs i c (by omega)]
   have hr:=h.1
   rw [hn] at hr
   exact ((((hr.stored _ _).1.stored _ _).1.stored _ _).1.stored _ _).1.stored _ _ |>.1
 · rcases List.mem_or_eq_of_mem_set hx with hx | rfl
   · exact h.2 x hx
   · exact hc
theorem Ku.put5 {N g i:Nat} {S:Nat→TypeId→Prop} {a w:World} {c:Cmt} (h:Ku N S a w) (hN:N≤g) (hs:∀ (cs:Array Value) (t:TypeId) (fz:Nat × Nat),a.heap[g]?=some (Obj.cells cs t fz)→S g t):Ku N S a (put5 w g i c) :=
 ((((h.set hN hs).set hN hs).set hN hs).set hN hs).set hN hs
theorem keeps_put5 {a w:World} (h:KeepsOthers a w) (g i:Nat) (c:Cmt):KeepsOthers a (put5 w g i c) :=
 ((((h.trans (KeepsOthers.setCell _ _ _)).trans (KeepsOthers.setCell _ _ _)).trans (KeepsOthers.setCell _ _ _)).trans (KeepsOthers.setCell _ _ _)).trans (KeepsOthers.setCell _ _ _)
theorem keeps_drew {a w:World} (h:KeepsOthers a w):KeepsOthers a w.drew:=h.trans ⟨Nat.le_refl _,fun _ _ h _=>h⟩
def RvInv (M:Nat) (w:World) (g n cap:Nat) (k:Nat) (v2 v3:Value) (wr:World):Prop :=
 ∃ i m cs',i+m+1=n∧k=n - i∧v2=.int .i64 (i:Nat)∧v3=.int .i64 (m:Nat)∧Ku M (fun j u=>u=194∧j=g) w wr∧CmAt M wr (.slice (some ⟨g,0,none⟩) n cap) cs'∧cs'.length=n∧KeepsOthers w wr
set_option maxHeartbeats 2000000 in
theorem reverse_some (M:Nat) (w:World) (g n cap:Nat) (cs:List Cmt) (h:CmAt M w (.slice (some ⟨g,0,none⟩) n cap) cs) (hn:cs.length=n) (h0:0 < n) (hl:n≤1000000) :
   Calls Tryz.prog 100 #[.slice (some ⟨g,0,none⟩) n cap] w fun e w'=>e=.returned (.tuple #[])∧Ku M (fun i u=>u=194∧i=g) w w'∧KeepsOthers w w'∧∃ cs',CmAt M w' (.slice (some ⟨g,0,none⟩) n cap) cs'∧cs'.length=n:=by
 have hw1:IntKind.i64.wrap ((n:Int) - 1)=((n - 1:Nat):Int):=(Go.IntWalk.i64_in _ (by omega)).trans (by omega)
 have hgty:∃ ds fz,w.heap[g]?=some (.cells ds 194 fz):=by
   rcases h.1.2 with ⟨h2,_⟩ | ⟨g',cap',cur,e,hg,hh,_⟩
   · cases h2
   · simp only [Value.slice.injEq,Option.some.injEq,Addr.mk.injEq,and_true] at e
     exact ⟨cur,_,by rw [e.1];exact hh⟩
 have H:=hide h
 have HG:=hide hgty
 have hMg:M≤g:=(h.lt g rfl).1
 clear h hgty
 go_enter Tryz.func100,Tryz.ntmps100
 go_wp2_with fail
 go_loopg [2,3] n (fun k v2 v3 wr=>Hid (RvInv M w g n cap k v2 v3 wr))
 case atStart=>exact hide ⟨0,n - 1,cs,by omega,rfl,rfl,rfl,Ku.refl _ _ _,H.out,hn,KeepsOthers.refl _⟩
 case round =>
   obtain ⟨i,m,cs',him,hk,rfl,rfl,hku,hcm,hcl,hko⟩:=hrel.out
   clear hrel
   rcases Nat.lt_or_ge i m with hlt | hge
   · have hi:(i:Int) < (m:Int):=by omega
     have b0:(0:Int)≤(i:Int):=by omega
     have b1:(i:Int) < (n:Int):=by omega
     have b2:(0:Int)≤(m:Int):=by omega
     have b3:(m:Int) < (n:Int):=by omega
     obtain ⟨ci,hci⟩:∃ c,cs'[i]?=some c:=⟨_,List.getElem?_eq_getElem (by omega)⟩
     obtain ⟨cm,hcmm⟩:∃ c,cs'[m]?=some c:=⟨_,List.getElem?_eq_getElem (by omega)⟩
     obtain ⟨x0,x1,x2,x3,x4⟩:=hcm.cells hcl hci
     obtain ⟨y0,y1,y2,y3,y4⟩:=hcm.cells hcl hcmm
     have ff:∀ j,wr.frozen? ⟨g,j,none⟩=false:=fun j=>by
       have hr:=hcm.1
       rw [hcl] at hr
       exact hr.frozenAt j
     have HKU:=hide hku
     have HKO:=hide hko
     have HCM:=hide (And.intro hcm (And.intro hci hcmm))
     clear hku hcm hci hcmm hko
     go_wp2_with fail
     change Code.wp _ (Code.region _ #[_,_,_,_,_,_,_,id _,_,_,_,id _,_,_,_,_] _) _ _ _
     go_region_held3 (fun w'=>True) (trivial) (fail)
     all_goals go_wp2_with fail
     all_goals go_roundg (n - (i+1))
     all_goals
       first
       | omega
       | (obtain ⟨hc1,hc2,hc3⟩:=HCM.out
          have e1:=(hc1.put hcl (i:=i) (c:=cm) (by omega) (hc1.2 cm (List.mem_of_getElem? hc3))).put (by simpa using hcl) (i:=m) (c:=ci) (by omega) (hc1.2 ci (List.mem_of_getElem? hc2))
          have hs:∀ (cs:Array Value) (t:TypeId) (fz:Nat × Nat),w.heap[g]?=some (Obj.cells cs t fz)→t=194∧g=g:=fun cs t fz e=>by
            obtain ⟨ds,fz',h2⟩:=HG.out
            rw [h2] at e
            simp only [Option.some.injEq,Obj.cells.injEq] at e
            exact ⟨e.2.1.symm,rfl⟩
          have e2:=(Ku.put5 (i:=m) (c:=ci) (Ku.put5 (i:=i) (c:=cm) HKU.out hMg hs) hMg hs).drew
          have e3:CmAt M (put5 (put5 wr g i cm) g m ci).drew (.slice (some ⟨g,0,none⟩) n cap) ((cs'.set i cm).set m ci):=⟨e1.1.drew,e1.2⟩
          have e4:Value.int .i64 ((m:Int) - 1)=.int .i64 ((m - 1:Nat):Int):=by rw [show ((m - 1:Nat):Int)=(m:Int) - 1 by omega]
          have e5:((cs'.set i cm).set m ci).length=n:=by simpa using hcl
          have e6:KeepsOthers w (put5 (put5 wr g i cm) g m ci).drew:=keeps_drew (keeps_put5 (keeps_put5 HKO.out g i cm) g m ci)
          clear e1 hc1 hc2 hc3 hs
          unfold put5 at e2 e3 e6
          exact hide ⟨i+1,m - 1,(cs'.set i cm).set m ci,by omega,rfl,by simp,e4,e2,e3,e5,e6⟩)
   · have hi:((i:Int) < (m:Int))=False:=by simp;omega
     have HKU:=hide hku
     have HCM:=hide hcm
     have HKO:=hide hko
     clear hku hcm hko
     go_wp2_with fail
     go_returns
     exact ⟨rfl,HKU.out,HKO.out,cs',HCM.out,hcl⟩
theorem reverse_any (M:Nat) (w:World) (v:Value) (cs:List Cmt) (h:CmAt M w v cs) (hl:cs.length≤1000000) :
   Calls Tryz.prog 100 #[v] w fun e w'=>e=.returned (.tuple #[])∧Ku M (fun i u=>u=194∧v.ownBlock=some i) w w'∧KeepsOthers w w'∧∃ cs',CmAt M w' v cs'∧cs'.length=cs.length:=by
 rcases Nat.eq_zero_or_pos cs.length with h0 | h0
 · obtain ⟨a,cap,e⟩:=owns_any h.1
   rw [h0] at e
   have H:=hide h
   have E:=hide e
   subst e
   clear h
   go_enter Tryz.func100,Tryz.ntmps100
   go_wp2_with fail
   go_loopg [2,3] 0 (fun k a b wr=>k=0∧a=.int .i64 0∧b=.int .i64 (-1)∧wr=w)
   case atStart=>exact ⟨rfl,rfl,rfl,rfl⟩
   case round =>
     obtain ⟨rfl,rfl,rfl,rfl⟩:=hrel
     go_wp2_with fail
     go_returns
     exact ⟨rfl,Ku.refl _ _ _,KeepsOthers.refl _,cs,H.out,rfl⟩
 · obtain ⟨n,hn⟩:∃ n,cs.length=n+1:=⟨cs.length - 1,by omega⟩
   have h1:=h.1
   rw [hn] at h1
   obtain ⟨g,cap,rfl⟩:=owns_form h1
   refine (reverse_some M w g (n+1) cap cs h hn (by omega) (by omega)).mono ?_
   rintro e w' ⟨h2,h3,h6,cs',h4,h5⟩
   exact ⟨h2,h3.mono (fun i u x=>⟨x.1,by simp [Value.ownBlock,x.2]⟩),h6,cs',h4,h5.trans hn.symm⟩
end
end Go.Proofs.YtifkpibjeamfkaaGreatFmt
