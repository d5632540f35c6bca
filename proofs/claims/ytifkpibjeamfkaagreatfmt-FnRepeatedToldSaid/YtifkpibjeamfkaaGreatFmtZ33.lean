/-
  A drawn region that writes, in a round of a range over a function.
  What holds between the rounds of assignComments: the steps.
  The tree behind parse; what assignComments wants of it.
  The state of parseToFile's loop: the file that is filled, the errors that are gathered; the closures that add an error.
-/
import Derived.Test.YtifkpibjeamfkaaGreatFmtZ03
import Derived.Test.YtifkpibjeamfkaaGreatFmtZ27
import Derived.OrdersHeld
import Derived.Test.YtifkpibjeamfkaaGreatFmtZ12
import Derived.Sort.LoopGhostIn
import Derived.Test.YtifkpibjeamfkaaGreatFmtZ23
import Derived.Test.YtifkpibjeamfkaaGreatFmtZ32
set_option linter.unusedVariables false
set_option linter.unusedSimpArgs false
set_option maxRecDepth 100000
namespace Go.Proofs.YtifkpibjeamfkaaGreatFmt
section
open Go.RowKit Go.Proofs
theorem op_wide {n:Nat} {P:Program} {o:Oper} {a:Act} {w:World} {K:Act→World→Prop} {Q:Exit→Act→World→Prop} (h:o.wp P a w K Q):o.wpIn Fence.wide n P a w K Q:=by
 unfold Oper.wpIn
 refine ⟨fun _ _=>trivial,?_⟩
 show Oper.uponIn Fence.wide n P o a K Q ((Oper.semAt none a.eval o).run P w)
 rw [Oper.semAt_none]
 unfold Oper.wp at h
 generalize (execOp a.eval o).run P w=res at h ⊢
 cases res with
 | ok x w' =>
   cases x with
   | enter f args=>exact ⟨(fun e=>by cases e),callsIn_wide.2 h⟩
   | row r args=>exact ⟨(fun e=>by cases e),fun c cs _=>let ⟨v,w2,r2,s⟩:=h c cs;⟨v,w2,r2,stepsIn_wide.2 s⟩⟩
   | value v=>exact h
   | skip=>exact h
   | defer d=>exact h
   | _=>exact h.elim
 | halt x w'=>cases x <;> first | exact h | exact h.elim
theorem ops_wide {n:Nat} {P:Program} {ops:Array Oper} {Q:Exit→Act→World→Prop} (hL:¬ LetsOut Q):∀ (l:List Nat) (a:Act) (w:World),wpOps P ops Q l a w→wpOpsIn Fence.wide n P ops Q l a w:=by
 intro l
 induction l with
 | nil=>intro a w h;exact h
 | cons i rest ih =>
   intro a w h
   rw [wpOpsIn_cons]
   unfold wpOpIn
   unfold wpOps at h
   cases hi:ops[i]? with
   | none=>simp only [hi] at h ⊢;exact ih a w h
   | some o =>
     simp only [hi] at h ⊢
     split
     · rename_i hw
       simp only [hw,if_true] at h
       rcases h with h | h
       · exact Oper.wpIn_mono (fun a w=>ih a w) (op_wide h)
       · exact absurd h.2 hL
     · rename_i hw
       simp only [hw] at h
       exact ⟨fun _ _=>trivial,ih _ _ h⟩
theorem held_round {n:Nat} {P:Program} {id:Nat} {Q:Exit→Act→World→Prop} {S:World→Prop} {a:Act} {w:World} {ops:Array Oper} (r:Nat) (hm:P.follows .mixedOrders=true) (hd:∀ o ∈ ops.toList,∀ c,o.op≠.defer c) (hL:¬ LetsOut Q) (hS:S w.drew)
   (h:S w.drew→wpAnyH P .any ops Q S ops.size (Array.replicate ops.size false) a w.drew):(Code.region id ops true).wpIn (Fence.wide.inRound r) n P Q a w:=by
 refine wpIn_region_draw fun t=>?_
 simp only [Region.schedule,hm,Bool.true_or,if_true]
 refine opsIn_round r rfl hd _ _ _ (ops_wide hL _ _ _ ?_)
 exact wpAny_sound _ t _ a _ (wpAny_of_held _ _ _ _ (h hS))
end
section
open Go.RowKit Go.Shelf Go.Proofs
def AgInv (N:Nat) (W:World) (T3:Nat) (cms:List Cmt) (k:Nat) (v30:Value) (wr:World):Prop :=
 ∃ j sf,j+k=cms.length∧v30=.int .i64 (j:Nat)∧Ku N (fun i _=>i=T3) W wr∧Blk wr T3 124 #[sf]∧CmAt W.heap.size wr sf (cms.take j)
theorem ku_of_grown {N D:Nat} {W W':World} {row:Option Nat} (hg:W.grownBy W' row) (hr:∀ r,row=some r→D≤r∧∃ o:Obj,W.heap[r]?=some o∧o.isCells=false) (hN:N≤W.heap.size) (hD:N≤D):Ku N (fun _ _=>False) W W':=by
 refine ⟨(Below.refl N W).grown hg hN (fun k e=>Nat.le_trans hD (hr k e).1),fun k cs t fz hk _=>?_⟩
 refine (hg.block k (Array.getElem?_eq_some_iff.1 hk).1 (fun e=>?_)).trans hk
 obtain ⟨_,o,ho,hc⟩:=hr k e.symm
 rw [hk] at ho
 simp only [Option.some.injEq] at ho
 subst ho
 cases hc
def RdS:Nat→TypeId→Prop:=fun _ u=>u=194∨u=124∨u=136∨u=201∨u=143
def RdI (N:Nat) (w W0:World) (es:List Ex) (T3:Nat) (V:World):Prop :=
 ∃ sv sf ss,AcSt N w es sv sf ss V∧Blk V T3 124 #[sf]∧Ku N RdS W0 V
theorem RdI.below {N:Nat} {w W0 V V':World} {es:List Ex} {T3:Nat} (hN:N≤W0.heap.size) (h:RdI N w W0 es T3 V) (k:Below V.heap.size V V'):RdI N w W0 es T3 V':=by
 obtain ⟨sv,sf,ss,h1,h2,h3⟩:=h
 have k2:Ku N (fun _ _=>False) V V':=Ku.of_below k (Nat.le_trans hN h3.size)
 exact ⟨sv,sf,ss,h1.quiet k2 k2.below (fun _ _ e=>e.elim) (fun _ e=>e),h2.keptU k2 (fun e=>e),h3.trans (k2.mono (fun _ _ e=>e.elim))⟩
theorem Kq.of_below {Bs b:Nat} {V V':World} (h1:Bs < V.heap.size) (h2:b < V.heap.size) (k:Below V.heap.size V V'):Kq Bs b V V':=⟨k.size,k.block Bs h1,k.block b h2⟩
def RdL (N:Nat) (w W0 V:World) (es:List Ex) (T3 Bs gq p2:Nat) (b1 b2 b3:Int) (k:Nat) (wr:World):Prop :=
 ∃ sv sf ss,ss.length=k∧AcSt N w es sv sf ss wr∧Blk wr T3 124 #[sf]∧Ku N RdS W0 wr∧KeepsOthers V wr∧Kq Bs gq V wr∧Blk wr p2 134 #[.int .i64 b1,.int .i64 b2,.int .i64 b3]
theorem RdL.fin {N:Nat} {w W0 V wr:World} {es:List Ex} {T3 Bs gq p2 k:Nat} {b1 b2 b3:Int} (h:RdL N w W0 V es T3 Bs gq p2 b1 b2 b3 k wr) (n:Nat):KeepsOthers V (wr.drewN n)∧Kq Bs gq V (wr.drewN n)∧RdI N w W0 es T3 (wr.drewN n):=by
 obtain ⟨sv,sf,ss,_,h1,h2,h3,h4,h5,_⟩:=h
 have k2:Ku N (fun _ _=>False) wr (wr.drewN n):=(Ku.refl _ _ _).drewN n
 exact ⟨⟨h4.size,h4.same⟩,⟨h5.size,h5.hB,h5.hb⟩,sv,sf,ss,h1.quiet k2 k2.below (fun _ _ e=>e.elim) (fun _ e=>e),h2.keptU k2 (fun e=>e),h3.trans (k2.mono (fun _ _ e=>e.elim))⟩
theorem RdI.own {N D:Nat} {w W0:World} {es:List Ex} {T3:Nat} {β:Type} (hN:N≤W0.heap.size) (hD:N≤D):OwnFrom D (fun (_:β) V=>RdI N w W0 es T3 V):=by
 rintro _ W W' row ⟨sv,sf,ss,h1,h2,h3⟩ hg hr
 have k:=ku_of_grown hg hr (Nat.le_trans hN h3.size) hD
 exact ⟨sv,sf,ss,h1.quiet k k.below (fun _ _ e=>e.elim) (fun _ e=>e),h2.keptU k (fun e=>e),h3.trans (k.mono (fun _ _ e=>e.elim))⟩
theorem keeps_append {W w1:World} {N size n:Nat} {e:TypeId} {v:Value} {xs:List Value} (hown:W.ownsRow N e size v n xs) (hg:W.grownBy w1 v.ownBlock):KeepsOthers W w1:=by
 refine KeepsOthers.of_grownBy hg (fun j o hj ho=>?_)
 rcases hown.2 with ⟨rfl,_⟩ | ⟨g,cap,cur,rfl,_,hh,_⟩
 · simp [Value.ownBlock] at hj
 · simp only [Value.ownBlock,Option.some.injEq] at hj
   subst hj
   rw [hh] at ho
   simp only [Option.some.injEq] at ho
   subst ho
   rfl
theorem Kq.of_ku {N Bs gq:Nat} {W0 V W6:World} {bcs gcs:Array Value} {fz:Nat × Nat} (hV:Ku N RdS W0 V) (h6:Ku N RdS W0 W6) (hs:V.heap.size≤W6.heap.size) (hB:Blk W0 Bs 127 bcs) (hg:W0.heap[gq]?=some (Obj.cells gcs 131 fz)):Kq Bs gq V W6 :=
 ⟨hs,(h6.keep _ _ _ _ hB.out (by simp [RdS])).trans (hV.keep _ _ _ _ hB.out (by simp [RdS])).symm,(h6.keep _ _ _ _ hg (by simp [RdS])).trans (hV.keep _ _ _ _ hg (by simp [RdS])).symm⟩
theorem RdL.step {N:Nat} {w W0 V wr w5:World} {es:List Ex} {T3 Bs gq p2 m sg sc2 en gg cap:Nat} {b1 b2 b3:Int} {sv2:Addr→Value} {ini ecs:List Cmt} {c:Cmt} {e:Ex} {va:Option Addr} {vc H:Nat} {bcs gcs:Array Value} {fz:Nat × Nat}
   (HS2:AcSt N w es sv2 (.slice (some ⟨sg,0,none⟩) (m+1) sc2) (ini++[c]) wr) (hm:ini.length=m) (HB2:Blk wr T3 124 #[.slice (some ⟨sg,0,none⟩) (m+1) sc2]) (HU2:Ku N RdS W0 wr) (HO2:KeepsOthers V wr) (HP2:Blk wr p2 134 #[.int .i64 b1,.int .i64 b2,.int .i64 b3])
   (he:e ∈ es) (hf:e.isFile=false) (hNe:N≤e.addr.block) (hNw:N≤w.heap.size) (hT3:w.heap.size≤T3) (HV:Ku N RdS W0 V) (hBs:Blk W0 Bs 127 bcs) (hgq:W0.heap[gq]?=some (Obj.cells gcs 131 fz))
   (hen:ecs.length=en) (hec:CmAt w.heap.size wr (.slice va en vc) ecs) (hel:ecs.length+(ini++[c]).length≤900000) (hsv:sv2 e.addr=.slice va en vc) (k5:Ku w.heap.size (fun i u=>u=194∧(Value.slice va en vc).ownBlock=some i) wr w5) (hko:KeepsOthers wr w5)
   (hown:w5.ownsRow w.heap.size 194 5 (.slice (some ⟨gg,0,none⟩) (en+1) cap) (en+1) (cvals ecs++c.vals)) (hat:(Value.slice va en vc).ownBlock=some gg∨gg=H) (hH:wr.heap.size≤H) :
   RdL N w W0 V es T3 Bs gq p2 b1 b2 b3 m ((w5.setCell e.slot (.slice (some ⟨gg,0,none⟩) (en+1) cap)).setCell ⟨T3,0,none⟩ (.slice (some ⟨sg,0,none⟩) m sc2)):=by
 have hd:=HS2.drop hm
 have hl:ecs.length+1+ini.length≤900000:=by simp at hel;omega
 have hadd:=hd.add (x:=e) (W:=w5.setCell e.slot (.slice (some ⟨gg,0,none⟩) (en+1) cap)) (w3:=w5) (g:=gg) (cap:=cap) (n:=en+1) (H:=H) (cs:=ecs) (c:=c) he hNw hNe (by rw [hsv];exact hec) (by omega) (HS2.sfx.2 c (by simp)) (by omega)
   (by rw [hsv];exact k5) hown (by rw [hsv];exact hat) hH rfl (fun e' he' _=>by
     obtain ⟨ds,h1,h2⟩:=hd.com e' he'
     exact ⟨ds,h1,h2⟩) hl
 obtain ⟨xcs,hxb⟩:=HS2.exb he
 have hx5:=hxb.keptU k5 (fun y=>e.tyNe.1 y.1)
 have hT5:=HB2.keptU k5 (fun y=>absurd y.1 (by decide))
 have hp5:=HP2.keptU k5 (fun y=>absurd y.1 (by decide))
 have hty:RdS e.addr.block e.ty:=by
   cases e <;> first | (simp [Ex.isFile] at hf;done) | simp [RdS,Ex.ty]
 have hneT:e.ty≠124∧e.ty≠134:=by cases e <;> simp [Ex.ty]
 have k5':Ku N RdS wr w5:=(k5.low hNw).mono (fun i t y=>Or.inl y.1)
 have k6:Ku N RdS w5 (w5.setCell e.slot (.slice (some ⟨gg,0,none⟩) (en+1) cap)):=by
   unfold Ex.slot
   exact Ku.set_blk (Ku.refl _ _ _) hNe hx5 hty
 have hT6:Blk (w5.setCell e.slot (.slice (some ⟨gg,0,none⟩) (en+1) cap)) T3 124 #[.slice (some ⟨sg,0,none⟩) (m+1) sc2]:=hT5.set_other (by unfold Ex.slot;exact hT5.ne hx5 (fun y=>hneT.1 y.symm)) _
 have k7:Ku N (fun i u=>i=T3∧u=124) (w5.setCell e.slot (.slice (some ⟨gg,0,none⟩) (en+1) cap)) ((w5.setCell e.slot (.slice (some ⟨gg,0,none⟩) (en+1) cap)).setCell ⟨T3,0,none⟩ (.slice (some ⟨sg,0,none⟩) m sc2)) :=
   Ku.set_blk (Ku.refl _ _ _) (by omega) hT6 ⟨rfl,rfl⟩
 have hU6:Ku N RdS W0 ((w5.setCell e.slot (.slice (some ⟨gg,0,none⟩) (en+1) cap)).setCell ⟨T3,0,none⟩ (.slice (some ⟨sg,0,none⟩) m sc2)) :=
   ((HU2.trans k5').trans k6).trans (k7.mono (fun i t y=>Or.inr (Or.inl y.2)))
 refine ⟨_,_,ini,hm,hadd.quiet k7 k7.below (fun i t y=>Or.inr (by omega)) (fun i y=>absurd y.2 (by decide)),(hT6.set 0 _).eq (by simp),hU6,?_,?_,?_⟩
 · exact ((HO2.trans hko).trans (KeepsOthers.setCell _ _ _)).trans (KeepsOthers.setCell _ _ _)
 · exact Kq.of_ku HV hU6 (Nat.le_trans HO2.size (by have h1:=k5.size;have h2:=k6.size;have h3:=k7.size;omega)) hBs hgq
 · exact (hp5.set_other (by unfold Ex.slot;exact hp5.ne hx5 (fun y=>hneT.2 y.symm)) _).set_other (hp5.ne hT5 (by decide)) _
theorem Sq.after {N:Nat} {a b c:World} (h:Sq N a b) (k:Below a.heap.size b c) (hN:N≤a.heap.size):Sq N a c:=by
 refine ⟨h.below.trans (k.mono hN),fun i cs t fz he ht=>?_⟩
 obtain ⟨cs1,h1,h2,h3⟩:=h.keep i cs t fz he ht
 exact ⟨cs1,(k.block i (Array.getElem?_eq_some_iff.1 he).1).trans h1,h2,h3⟩
theorem below_putObj (W:World) (D:Nat) (o:Obj) (hD:D < W.heap.size):Below D W (W.putObj D o) :=
 (Below.refl D W).grown (grownBy_putObj' W D o) (by omega) (fun k e=>by cases e;omega)
theorem putObj_ne (W:World) (D k:Nat) (o:Obj) (hD:D < W.heap.size) (hk:k < W.heap.size) (hne:k≠D):(W.putObj D o).heap[k]?=W.heap[k]? :=
 (grownBy_putObj' W D o).block k hk (fun e=>hne (by simpa using e))
theorem Ku.putObj {N D:Nat} {S:Nat→TypeId→Prop} {a w:World} {o o':Obj} (h:Ku N S a w) (hN:N≤D) (hD:w.heap[D]?=some o) (hc:o.isCells=false):Ku N S a (w.putObj D o'):=by
 have hlt:=(Array.getElem?_eq_some_iff.1 hD).1
 refine ⟨h.below.trans ((below_putObj w D o' hlt).mono hN),fun k cs t fz e hn=>?_⟩
 have h1:=h.keep k cs t fz e hn
 have hne:k≠D:=by
   rintro rfl
   rw [hD] at h1
   simp only [Option.some.injEq] at h1
   subst h1
   cases hc
 rw [putObj_ne w D k o' hlt (Array.getElem?_eq_some_iff.1 h1).1 hne]
 exact h1
theorem ac_fin {N:Nat} {w wr w3:World} {es:List Ex} {sv:Addr→Value} {sf:Value} {ss:List Cmt} {F D:Nat} {fcs:Array Value} {o o':Obj} (h:AcSt N w es sv sf ss wr) (hb:Below wr.heap.size wr w3) (hF:Blk wr F 129 fcs) (hNF:N≤F) (hNw:N≤w.heap.size)
   (hD:w.heap.size≤D) (hDo:w3.heap[D]?=some o) (hoc:o.isCells=false) (u:Value) :
   Sq N w ((w3.setCell ⟨F,1,none⟩ u).putObj D o')∧Ku N (fun i t=>i=F∧t=129) wr ((w3.setCell ⟨F,1,none⟩ u).putObj D o')∧∀ e ∈ es,e.isFile=false→∃ v ds,((w3.setCell ⟨F,1,none⟩ u).putObj D o').cell? e.slot=some v∧CmB N ((w3.setCell ⟨F,1,none⟩ u).putObj D o') v ds:=by
 have hws:=h.sq.size
 have k3:Ku N (fun i t=>i=F∧t=129) wr w3:=Ku.of_below hb (by omega)
 have hF3:Blk w3 F 129 fcs:=hF.kept (Kp.of_below (X:=fun _=>False) hb) (fun h=>h)
 have k4:Ku N (fun i t=>i=F∧t=129) w3 (w3.setCell ⟨F,1,none⟩ u):=Ku.set_blk (Ku.refl _ _ _) hNF hF3 ⟨rfl,rfl⟩
 have hne:D≠F:=by
   rintro rfl
   have:=hF3.out
   rw [hDo] at this
   simp only [Option.some.injEq] at this
   subst this
   cases hoc
 have hDo4:(w3.setCell ⟨F,1,none⟩ u).heap[D]?=some o:=(Below.heap_setCell _ _ _ _ hne).trans hDo
 have hlt4:=(Array.getElem?_eq_some_iff.1 hDo4).1
 have k5:Ku N (fun i t=>i=F∧t=129) wr ((w3.setCell ⟨F,1,none⟩ u).putObj D o'):=(k3.trans k4).putObj (by omega) hDo4 hoc
 refine ⟨?_,k5,fun e he hf=>?_⟩
 · have h1:Sq N w w3:=h.sq.below' hb (by omega)
   have h2:Sq N w (w3.setCell ⟨F,1,none⟩ u):=h1.slot hNF hF3 (by simp [SlotZ]) u
   exact h2.after ((below_putObj _ D o' hlt4).mono hD) hNw
 · obtain ⟨xcs,hxb⟩:=h.exb he
   have hx5:=hxb.keptU k5 (fun y=>by cases e <;> first | (simp [Ex.isFile] at hf;done) | (have:=y.2;simp [Ex.ty] at this))
   obtain ⟨cs,hc,hcl⟩:=h.com e he
   refine ⟨sv e.addr,cs,?_,(hc.keptU k5 (fun g _ y=>absurd y.2 (by decide))).low hNw,by omega⟩
   have:=h.slot e he
   unfold Ex.slot at this ⊢
   rw [cell_heap (hx5.out.trans hxb.out.symm)]
   exact this
theorem post_noFile (ns:List Nd):∀ e ∈ postAll ns,e.isFile=false:=by
 intro e he
 obtain ⟨nd,_,h⟩:=List.mem_flatMap.1 he
 cases nd with
 | cb C=>simp [Nd.post] at h;subst h;rfl
 | ln L=>simp [Nd.post] at h;subst h;rfl
 | bk X Ls =>
   simp [Nd.post] at h
   rcases h with rfl | ⟨L,_,rfl⟩ | rfl | rfl <;> rfl
def DnI (N:Nat) (w V:World) (es:List Ex) (sv:Addr→Value) (sf:Value) (ss:List Cmt) (wr:World):Prop :=
 AcSt N w es sv sf ss wr∧Ku N (fun i u=>u=194∧w.heap.size≤i) V wr∧KeepsOthers V wr
end
section
open Go.RowKit Go.Proofs
def LnS (N:Nat) (w:World) (T:List UInt8) (L:Nat) (t:Tk) (ts:List Tk):Prop :=
 ∃ cs tv bv sv c1 c2,∃ a1 a2 a3:Int,Blk w L 136 cs∧cs[0]?=some bv∧cs[1]?=some sv∧cs[3]?=some (.int .i64 a1)∧cs[4]?=some (.int .i64 a2)∧cs[5]?=some (.int .i64 a3)∧cs[6]?=some tv ∧
   w.ownsRow N 9 1 tv (ts.length+1) (tvals T (t :: ts))∧CmB N w bv c1∧CmB N w sv c2
def LnsS (N:Nat) (w:World) (T:List UInt8) (Ls:List Nat) (ls:List (Tk × List Tk)):Prop:=Ls.length=ls.length∧∀ (j L:Nat) (l:Tk × List Tk),Ls[j]?=some L→ls[j]?=some l→LnS N w T L l.1 l.2
def BkS (N:Nat) (w:World) (T:List UInt8) (X:Nat) (Ls:List Nat) (t:Tk) (ts:List Tk) (ls:List (Tk × List Tk)):Prop :=
 ∃ cs tv lv bv sv c1 c2,∃ a1 a2 a3:Int,Blk w X 143 cs∧cs[0]?=some bv∧cs[1]?=some sv∧cs[3]?=some (.int .i64 a1)∧cs[4]?=some (.int .i64 a2)∧cs[5]?=some (.int .i64 a3)∧cs[12]?=some tv∧cs[13]?=some lv ∧
   w.ownsRow N 9 1 tv (ts.length+1) (tvals T (t :: ts))∧w.ownsRow N 92 1 lv Ls.length (Ls.map pv)∧CmB N w bv c1∧CmB N w sv c2∧LnsS N w T Ls ls
inductive TreeS (N:Nat) (w:World) (T:List UInt8):List Nd→List Stm→Prop
 | nil:TreeS N w T [] []
 | cb {C:Nat} {ns:List Nd} {ss:List Stm} (k:TreeS N w T ns ss):TreeS N w T (.cb C :: ns) ss
 | ln {L:Nat} {t:Tk} {ts:List Tk} {ns:List Nd} {ss:List Stm} (h:LnS N w T L t ts) (k:TreeS N w T ns ss):TreeS N w T (.ln L :: ns) (.line t ts :: ss)
 | bk {X:Nat} {Ls:List Nat} {t:Tk} {ts:List Tk} {ls:List (Tk × List Tk)} {ns:List Nd} {ss:List Stm} (h:BkS N w T X Ls t ts ls) (k:TreeS N w T ns ss):TreeS N w T (.bk X Ls :: ns) (.block t ts ls :: ss)
theorem cm_below {N M:Nat} {w w':World} {v:Value} {cs:List Cmt} (h:CmB N w v cs) (k:Below M w w') (hM:w.heap.size≤M):CmB N w' v cs :=
 h.keptU (S:=fun _ _=>False) (Ku.of_below (k.mono hM) (Nat.le_refl _)) (fun _ _ h=>h)
theorem row_below {N M sz n:Nat} {e:TypeId} {w w':World} {v:Value} {xs:List Value} (h:w.ownsRow N e sz v n xs) (k:Below M w w') (hM:w.heap.size≤M):w'.ownsRow N e sz v n xs :=
 ownsRow_keptU (S:=fun _ _=>False) h (Ku.of_below (k.mono hM) (Nat.le_refl _)) (fun _ _ h=>h)
theorem blk_below {M b:Nat} {t:TypeId} {w w':World} {cs:Array Value} (h:Blk w b t cs) (k:Below M w w') (hM:w.heap.size≤M):Blk w' b t cs :=
 h.kept (Kp.of_below (X:=fun _=>False) (k.mono hM)) (fun h=>h)
theorem LnS.below {N M:Nat} {w w':World} {T:List UInt8} {L:Nat} {t:Tk} {ts:List Tk} (h:LnS N w T L t ts) (k:Below M w w') (hM:w.heap.size≤M):LnS N w' T L t ts:=by
 obtain ⟨cs,tv,bv,sv,c1,c2,a1,a2,a3,hb,h0,h1,h3,h4,h5,h6,hr,hc1,hc2⟩:=h
 exact ⟨cs,tv,bv,sv,c1,c2,a1,a2,a3,blk_below hb k hM,h0,h1,h3,h4,h5,h6,row_below hr k hM,cm_below hc1 k hM,cm_below hc2 k hM⟩
theorem BkS.below {N M:Nat} {w w':World} {T:List UInt8} {X:Nat} {Ls:List Nat} {t:Tk} {ts:List Tk} {ls:List (Tk × List Tk)} (h:BkS N w T X Ls t ts ls) (k:Below M w w') (hM:w.heap.size≤M):BkS N w' T X Ls t ts ls:=by
 obtain ⟨cs,tv,lv,bv,sv,c1,c2,a1,a2,a3,hb,h0,h1,h3,h4,h5,h12,h13,hr,hr2,hc1,hc2,hl,hls⟩:=h
 exact ⟨cs,tv,lv,bv,sv,c1,c2,a1,a2,a3,blk_below hb k hM,h0,h1,h3,h4,h5,h12,h13,row_below hr k hM,row_below hr2 k hM,cm_below hc1 k hM,cm_below hc2 k hM,hl,fun j L l e1 e2=>(hls j L l e1 e2).below k hM⟩
theorem TreeS.low {N M:Nat} {w w':World} {T:List UInt8} {ns:List Nd} {ss:List Stm} (h:TreeS N w T ns ss) (k:Below M w w') (hM:w.heap.size≤M):TreeS N w' T ns ss:=by
 induction h with
 | nil=>exact .nil
 | cb _ ih=>exact .cb ih
 | ln h _ ih=>exact .ln (h.below k hM) ih
 | bk h _ ih=>exact .bk (h.below k hM) ih
theorem blk_get {w:World} {b j:Nat} {t:TypeId} {cs:Array Value} {v:Value} (h:Blk w b t cs) (hc:w.cell? ⟨b,j,none⟩=some v):cs[j]?=some v:=by
 have h:=h.out
 simpa [World.cell?,h] using hc
section
variable {N:Nat} {w w':World} {T:List UInt8} {P:Nat→Prop}
def Slots (N:Nat) (w':World) (es:List Ex):Prop:=∀ e ∈ es,∃ v ds,w'.cell? e.slot=some v∧CmB N w' v ds
theorem LnAt.s {L:Nat} {bv:Value} {b:Bool} {t:Tk} {ts:List Tk} {cs:List Cmt} (h:LnAt N w T L bv b t ts) (hc:CmB N w bv cs) (k:Sq N w w') (hs:∃ v ds,w'.cell? ⟨L,1,none⟩=some v∧CmB N w' v ds):LnS N w' T L t ts:=by
 obtain ⟨tv,hb,hr⟩:=h
 obtain ⟨cs',hb',_,hj⟩:=k.blk hb (by decide)
 obtain ⟨v,ds,hv,hd⟩:=hs
 exact ⟨cs',tv,bv,v,cs,ds,_,_,_,hb',(hj 0 (by simp [SlotZ])).trans rfl,blk_get hb' hv,(hj 3 (by simp [SlotZ])).trans rfl,(hj 4 (by simp [SlotZ])).trans rfl,(hj 5 (by simp [SlotZ])).trans rfl,(hj 6 (by simp [SlotZ])).trans rfl,
   k.row hr (by decide) (by simp [SlotZ]),⟨k.cm hc.cm,hc.len⟩,hd⟩
theorem LnsAt.s {Ls:List Nat} {ls:List (Tk × List Tk)} (h:LnsAt N w T P Ls ls) (k:Sq N w w') (hs:∀ L ∈ Ls,∃ v ds,w'.cell? ⟨L,1,none⟩=some v∧CmB N w' v ds):LnsS N w' T Ls ls:=by
 induction h with
 | nil=>exact ⟨rfl,by simp⟩
 | cons bv cs h hc hp _ ih =>
   obtain ⟨i1,i2⟩:=ih (fun L hL=>hs L (List.mem_cons_of_mem _ hL))
   refine ⟨by simp [i1],fun j L l e1 e2=>?_⟩
   rcases j with _ | j
   · simp only [List.getElem?_cons_zero,Option.some.injEq] at e1 e2
     subst e1 e2
     exact h.s hc k (hs _ (List.mem_cons_self ..))
   · exact i2 j L l (by simpa using e1) (by simpa using e2)
theorem BkAt.s {X:Nat} {Ls:List Nat} {bv:Value} {t:Tk} {ts:List Tk} {ls:List (Tk × List Tk)} {cs:List Cmt} (h:BkAt N w T P X Ls bv t ts ls) (hc:CmB N w bv cs) (k:Sq N w w') (hs:Slots N w' (Nd.post (.bk X Ls))):BkS N w' T X Ls t ts ls:=by
 obtain ⟨a1,a2,a3,p1,p2,p3,tv,lv,rb,cms,q1,q2,q3,hb,hr,hr2,hls,hrc,_,_⟩:=h
 obtain ⟨cs',hb',_,hj⟩:=k.blk hb (by decide)
 obtain ⟨v,ds,hv,hd⟩:=hs (.bk X) (by simp [Nd.post])
 refine ⟨cs',tv,lv,bv,v,cs,ds,_,_,_,hb',(hj 0 (by simp [SlotZ])).trans rfl,blk_get hb' hv,(hj 3 (by simp [SlotZ])).trans rfl,(hj 4 (by simp [SlotZ])).trans rfl,(hj 5 (by simp [SlotZ])).trans rfl,(hj 12 (by simp [SlotZ])).trans rfl,(hj 13 (by simp [SlotZ])).trans rfl,
   k.row hr (by decide) (by simp [SlotZ]),k.row hr2 (by decide) (by simp [SlotZ]),⟨k.cm hc.cm,hc.len⟩,hd,hls.s k (fun L hL=>?_)⟩
 exact hs (.ln L) (by simp [Nd.post,hL])
theorem TreeAt.s {ns:List Nd} {ss:List Stm} (h:TreeAt N w T P ns ss) (k:Sq N w w') (hs:Slots N w' (postAll ns)):TreeS N w' T ns ss:=by
 induction h with
 | nil=>exact .nil
 | cb bv cs h hc hp _ ih=>exact .cb (ih (fun e he=>hs e (by simp [postAll] at he ⊢;exact Or.inr he)))
 | ln bv cs h hc hp _ ih=>exact .ln (h.s hc k (hs (.ln _) (by simp [postAll,Nd.post]))) (ih (fun e he=>hs e (by simp [postAll] at he ⊢;exact Or.inr he)))
 | bk bv cs h hc hp _ ih=>exact .bk (h.s hc k (fun e he=>hs e (by simp only [postAll,List.flatMap_cons,List.mem_append];exact Or.inl he))) (ih (fun e he=>hs e (by simp only [postAll,List.flatMap_cons,List.mem_append] at he ⊢;exact Or.inr he)))
structure NdF (N:Nat) (w:World) (nd:Nd):Prop where
 i:NdI w nd
 o:NdO N w.heap.size w nd
 es:∀ e ∈ nd.post,(∀ ns,ExI N ns w e)∧ExB w e∧w.cell? e.slot=some nilS∧e.addr.block ∈ nd.ids
theorem LnAt.f {L:Nat} {bv:Value} {b:Bool} {t:Tk} {ts:List Tk} (h:LnAt N w T L bv b t ts):IntsAt w L 136 [3,4,5,8,9,10]∧ExB w (.ln L)∧w.cell? (Ex.ln L).slot=some nilS:=by
 obtain ⟨tv,hb,hr⟩:=h
 refine ⟨⟨_,hb,?_⟩,⟨_,hb⟩,hb.cell 1 rfl⟩
 intro j hj
 simp only [List.mem_cons,List.not_mem_nil,or_false] at hj
 rcases hj with rfl | rfl | rfl | rfl | rfl | rfl <;> exact ⟨_,rfl⟩
theorem LnsAt.f {Ls:List Nat} {ls:List (Tk × List Tk)} (h:LnsAt N w T P Ls ls):∀ L ∈ Ls,IntsAt w L 136 [3,4,5,8,9,10]∧ExB w (.ln L)∧w.cell? (Ex.ln L).slot=some nilS:=by
 induction h with
 | nil=>simp
 | cons bv cs h hc hp _ ih =>
   intro L hL
   rcases List.mem_cons.1 hL with rfl | hL
   · exact h.f
   · exact ih L hL
theorem own_lt {N n sz:Nat} {e:TypeId} {w:World} {v:Value} {xs:List Value} (h:w.ownsRow N e sz v n xs):∀ g,v.ownBlock=some g→g < w.heap.size:=fun g hg=>(h.lt g hg).2
theorem TreeAt.f {ns:List Nd} {ss:List Stm} (h:TreeAt N w T P ns ss):∀ nd ∈ ns,NdF N w nd:=by
 induction h with
 | nil=>simp
 | cb bv cs h hc hp _ ih =>
   intro nd hn
   rcases List.mem_cons.1 hn with rfl | hn
   · obtain ⟨a1,a2,a3,hb⟩:=h
     have hi:IntsAt w _ 201 [3,4,5]:=⟨_,hb,fun j hj=>by
       simp only [List.mem_cons,List.not_mem_nil,or_false] at hj
       rcases hj with rfl | rfl | rfl <;> exact ⟨_,rfl⟩⟩
     refine ⟨hi,trivial,fun e he=>?_⟩
     obtain rfl:=List.mem_singleton.1 he
     exact ⟨fun _=>hi,⟨_,hb⟩,hb.cell 1 rfl,by simp [Nd.ids,Ex.addr]⟩
   · exact ih nd hn
 | ln bv cs h hc hp _ ih =>
   intro nd hn
   rcases List.mem_cons.1 hn with rfl | hn
   · obtain ⟨h1,h2,h3⟩:=h.f
     refine ⟨h1,trivial,fun e he=>?_⟩
     obtain rfl:=List.mem_singleton.1 he
     exact ⟨fun _=>h1,h2,h3,by simp [Nd.ids,Ex.addr]⟩
   · exact ih nd hn
 | bk bv cs h hc hp _ ih =>
   intro nd hn
   rcases List.mem_cons.1 hn with rfl | hn
   · obtain ⟨a1,a2,a3,p1,p2,p3,tv,lv,rb,cms,q1,q2,q3,hb,hr,hr2,hls,hrc,_,_⟩:=h
     have hi:IntsAt w _ 143 [3,4,5,9,10,11,17,18,19]:=⟨_,hb,fun j hj=>by
       simp only [List.mem_cons,List.not_mem_nil,or_false] at hj
       rcases hj with rfl | rfl | rfl | rfl | rfl | rfl | rfl | rfl | rfl <;> exact ⟨_,rfl⟩⟩
     refine ⟨hi,⟨_,lv,hb,rfl,hr2,hb.lt,own_lt hr2⟩,fun e he=>?_⟩
     simp only [Nd.post,List.mem_cons,List.mem_append,List.mem_map,List.not_mem_nil,or_false] at he
     rcases he with rfl | ⟨L,hL,rfl⟩ | rfl | rfl
     · exact ⟨fun _=>hi,⟨_,hb⟩,hb.cell 7 rfl,by simp [Nd.ids,Ex.addr]⟩
     · obtain ⟨h1,h2,h3⟩:=hls.f L hL
       exact ⟨fun _=>h1,h2,h3,by simp [Nd.ids,Ex.addr,hL]⟩
     · exact ⟨fun _=>hi,⟨_,hb⟩,hb.cell 15 rfl,by simp [Nd.ids,Ex.addr]⟩
     · exact ⟨fun _=>hi,⟨_,hb⟩,hb.cell 1 rfl,by simp [Nd.ids,Ex.addr]⟩
   · exact ih nd hn
end
theorem pre_post (ns:List Nd):∀ e ∈ preAll ns,e ∈ postAll ns:=by
 intro e he
 obtain ⟨nd,hn,h⟩:=List.mem_flatMap.1 he
 refine List.mem_flatMap.2 ⟨nd,hn,?_⟩
 cases nd with
 | cb C=>exact h
 | ln L=>exact h
 | bk X Ls =>
   simp only [Nd.pre,Nd.post,List.mem_cons,List.mem_append,List.not_mem_nil,or_false] at h ⊢
   rcases h with rfl | rfl | h | rfl
   · simp
   · simp
   · exact Or.inr (Or.inl h)
   · simp
def stmN:Stm→Nat
 | .line _ _=>0
 | .block _ _ ls=>ls.length
theorem TreeAt.idsLen {N:Nat} {w:World} {T:List UInt8} {P:Nat→Prop} {ns:List Nd} {ss:List Stm} (h:TreeAt N w T P ns ss):(idsOf ns).length≤ns.length+(ss.map stmN).sum∧(ss≠[]→0 < ns.length):=by
 induction h with
 | nil=>simp [idsOf]
 | cb bv cs h hc hp _ ih =>
   simp only [idsOf,List.flatMap_cons,List.length_append,List.length_cons,Nd.ids,List.length_nil] at ih ⊢
   exact ⟨by omega,by simp⟩
 | ln bv cs h hc hp _ ih =>
   simp only [idsOf,List.flatMap_cons,List.length_append,List.length_cons,Nd.ids,List.map_cons,List.sum_cons,stmN,List.length_nil] at ih ⊢
   exact ⟨by omega,by simp⟩
 | bk bv cs h hc hp _ ih =>
   obtain ⟨a1,a2,a3,p1,p2,p3,tv,lv,rb,cms,q1,q2,q3,hb,hr,hr2,hls,hrc,_,_⟩:=h
   have:=hls.len
   simp only [idsOf,List.flatMap_cons,List.length_append,List.length_cons,Nd.ids,List.map_cons,List.sum_cons,stmN] at ih ⊢
   exact ⟨by omega,by simp⟩
def restLen:Option (List Tk)→Nat
 | none=>0
 | some cs=>cs.length
theorem Body.lines {l:List Tk} {ls:List (Tk × List Tk)} {r:Option (List Tk)} (h:Body l ls r):ls.length+restLen r≤l.length:=by
 induction h with
 | skip c cs ls r h hb ih=>simp only [List.length_cons];omega
 | eof c h=>simp [restLen]
 | close c e t cs h he=>simp [restLen]
 | line c pre e cs ls r h h5 h41 hp he hb ih=>simp only [List.length_cons,List.length_append];omega
theorem FileP.lines {l:List Tk} {ss:List Stm} {b:Bool} (h:FileP l ss b):(ss.map stmN).sum≤l.length:=by
 induction h with
 | eof c h=>simp
 | skip c cs ss b h r ih=>simp only [List.length_cons];omega
 | line t ts nl cs ss b h1 h2 h3 hw hn r ih=>simp only [List.map_cons,List.sum_cons,stmN,List.length_cons,List.length_append];omega
 | block t ts lp e cs cs' ls ss b h1 h2 h3 hw hl he hb r ih =>
   have:=hb.lines
   simp only [List.map_cons,List.sum_cons,stmN,List.length_cons,List.length_append,restLen] at this ih ⊢
   omega
 | bad t ts lp e cs ls h1 h2 h3 hw hl he hb=>simp
end
section
open Go.RowKit Go.Proofs
def fty:Nat→TypeId
 | 3=>170
 | 4=>99
 | 5=>102
 | 6=>105
 | 7=>108
 | 8=>113
 | _=>116
theorem fty_ne {i j:Nat} (hi:3≤i) (hi':i≤9) (hj:3≤j) (hj':j≤9) (h:i≠j):fty i≠fty j:=by
 have e1:i=3∨i=4∨i=5∨i=6∨i=7∨i=8∨i=9:=by omega
 have e2:j=3∨j=4∨j=5∨j=6∨j=7∨j=8∨j=9:=by omega
 rcases e1 with rfl | rfl | rfl | rfl | rfl | rfl | rfl <;> rcases e2 with rfl | rfl | rfl | rfl | rfl | rfl | rfl <;> first | (exact absurd rfl h) | decide
structure FCs (M:Nat) (w:World) (cs:Array Value) (F:Nat) (m g:Bool) (c:Nat):Prop where
 size:cs.size=11
 mod:∃ p,cs[0]?=some (.pointer p)∧p.isSome=m
 go:∃ p,cs[1]?=some (.pointer p)∧p.isSome=g
 tc:∃ p,cs[2]?=some (.pointer p)
 syn:cs[10]?=some (.pointer (some ⟨F,0,none⟩))
 rows:∀ j,3≤j→j≤9→∃ v k xs,cs[j]?=some v∧w.ownsRow M (fty j) 1 v k xs∧k≤c
structure FSt (M:Nat) (w:World) (f E F:Nat) (nm:ByteArray) (m g:Bool) (n c:Nat):Prop where
 fb:∃ cs,Blk w f 89 cs∧FCs M w cs F m g c
 eb:∃ v xs,Blk w E 121 #[v]∧w.ownsRow M 146 7 v n xs
 sb:∃ cs,Blk w F 129 cs∧cs[0]?=some (.string nm)
 lf:M≤f
 lE:M≤E
 lF:F < M
 lM:M≤w.heap.size
 nc:n≤c
 bx:Blk w (f+1) 64 #[.pointer (some ⟨f,0,none⟩)]
theorem FSt.ku {M:Nat} {S:Nat→TypeId→Prop} {w w':World} {f E F:Nat} {nm:ByteArray} {m g:Bool} {n c:Nat} (h:FSt M w f E F nm m g n c) (k:Ku M S w w')
   (h1:∀ i,¬ S i 89) (h2:∀ i,¬ S i 121) (h3:∀ i,¬ S i 129) (h4:∀ i,¬ S i 146) (h5:∀ i j,3≤j→j≤9→¬ S i (fty j)) (h6:∀ i,¬ S i 64):FSt M w' f E F nm m g n c:=by
 obtain ⟨⟨cs,hb,q⟩,⟨v,xs,he,hr⟩,⟨ds,hs,hs0⟩,lf,lE,lF,lM,nc,bx⟩:=h
 refine ⟨⟨cs,hb.keptU k (h1 _),q.size,q.mod,q.go,q.tc,q.syn,fun j hj hj'=>?_⟩,⟨v,xs,he.keptU k (h2 _),ownsRow_keptU hr k (fun g _=>h4 g)⟩,⟨ds,hs.keptU k (h3 _),hs0⟩,lf,lE,lF,Nat.le_trans lM k.size,nc,bx.keptU k (h6 _)⟩
 obtain ⟨v,kk,xs,a,b,d⟩:=q.rows j hj hj'
 exact ⟨v,kk,xs,a,ownsRow_keptU b k (fun g _=>h5 g j hj hj'),d⟩
theorem FSt.below {M:Nat} {w w':World} {f E F:Nat} {nm:ByteArray} {m g:Bool} {n c:Nat} (h:FSt M w f E F nm m g n c) (k:Below w.heap.size w w'):FSt M w' f E F nm m g n c :=
 h.ku (S:=fun _ _=>False) (Ku.of_below k h.lM) (fun _ h=>h) (fun _ h=>h) (fun _ h=>h) (fun _ h=>h) (fun _ _ _ _ h=>h) (fun _ h=>h)
theorem FSt.more {M:Nat} {w:World} {f E F:Nat} {nm:ByteArray} {m g:Bool} {n c c':Nat} (h:FSt M w f E F nm m g n c) (k:c≤c'):FSt M w f E F nm m g n c':=by
 obtain ⟨⟨cs,hb,q⟩,eb,sb,lf,lE,lF,lM,nc,bx⟩:=h
 refine ⟨⟨cs,hb,q.size,q.mod,q.go,q.tc,q.syn,fun j hj hj'=>?_⟩,eb,sb,lf,lE,lF,lM,Nat.le_trans nc k,bx⟩
 obtain ⟨v,kk,xs,a,b,d⟩:=q.rows j hj hj'
 exact ⟨v,kk,xs,a,b,Nat.le_trans d k⟩
theorem FSt.ptr {M:Nat} {w:World} {f E F:Nat} {nm:ByteArray} {m g:Bool} {n c:Nat} (h:FSt M w f E F nm m g n c) (j:Nat) (hj:j < 3) (a:Addr):FSt M (w.setCell ⟨f,j,none⟩ (.pointer (some a))) f E F nm (m || j == 0) (g || j == 1) n c:=by
 obtain ⟨⟨cs,hb,q⟩,⟨v,xs,he,hr⟩,⟨ds,hs,hs0⟩,lf,lE,lF,lM,nc,bx⟩:=h
 have n1:E≠f:=he.ne hb (by decide)
 have n2:F≠f:=hs.ne hb (by decide)
 have k:Ku M (fun _ t=>t=89) w (w.setCell ⟨f,j,none⟩ (.pointer (some a))):=(Ku.refl _ _ _).set_blk lf hb rfl
 refine ⟨⟨_,hb.set j _,?_,?_,?_,?_,?_,?_⟩,⟨v,xs,he.set_other (fun e=>n1 e) _,ownsRow_keptU hr k (fun _ _=>by decide)⟩,⟨ds,hs.set_other (fun e=>n2 e) _,hs0⟩,lf,lE,lF,by simpa using lM,nc,bx.set_other (fun e=>by simp at e) _⟩
 · simp [q.size]
 · obtain ⟨p,e,i⟩:=q.mod
   by_cases h0:j=0
   · subst h0
     exact ⟨some a,by simp [q.size],by simp⟩
   · exact ⟨p,by simp [h0,e],by simp [h0,i]⟩
 · obtain ⟨p,e,i⟩:=q.go
   by_cases h0:j=1
   · subst h0
     exact ⟨some a,by simp [q.size],by simp⟩
   · exact ⟨p,by simp [h0,e],by simp [h0,i]⟩
 · obtain ⟨p,e⟩:=q.tc
   by_cases h0:j=2
   · subst h0
     exact ⟨some a,by simp [q.size]⟩
   · exact ⟨p,by simp [h0,e]⟩
 · simp [show j≠10 by omega,q.syn]
 · intro i hi hi'
   obtain ⟨v,kk,xs,e1,e2,e3⟩:=q.rows i hi hi'
   refine ⟨v,kk,xs,by simp [show j≠i by omega,e1],ownsRow_keptU e2 k (fun _ _=>?_),e3⟩
   have e1:i=3∨i=4∨i=5∨i=6∨i=7∨i=8∨i=9:=by omega
   rcases e1 with rfl | rfl | rfl | rfl | rfl | rfl | rfl <;> decide
theorem FSt.app {M:Nat} {w w1:World} {f E F:Nat} {nm:ByteArray} {m g:Bool} {n c:Nat} {v:Value} {k:Nat} {xs:List Value} (h:FSt M w f E F nm m g n c) (j:Nat) (hj:3≤j) (hj':j≤9) (h1:Ku M (fun _ t=>t=fty j) w w1)
   (hr1:w1.ownsRow M (fty j) 1 v k xs) (hk:k≤c+1):FSt M (w1.setCell ⟨f,j,none⟩ v) f E F nm m g n (c+1):=by
 obtain ⟨⟨cs,hb,q⟩,⟨u,ys,he,hr⟩,⟨ds,hs,hs0⟩,lf,lE,lF,lM,nc,bx⟩:=h
 have n1:E≠f:=he.ne hb (by decide)
 have n2:F≠f:=hs.ne hb (by decide)
 have ht:89≠fty j∧121≠fty j∧129≠fty j∧146≠fty j∧64≠fty j:=by
   have e1:j=3∨j=4∨j=5∨j=6∨j=7∨j=8∨j=9:=by omega
   rcases e1 with rfl | rfl | rfl | rfl | rfl | rfl | rfl <;> decide
 have hf:∀ i,3≤i→i≤9→fty i≠89:=by
   intro i hi hi'
   have e1:i=3∨i=4∨i=5∨i=6∨i=7∨i=8∨i=9:=by omega
   rcases e1 with rfl | rfl | rfl | rfl | rfl | rfl | rfl <;> decide
 have hb1:=hb.keptU h1 ht.1
 have k2:Ku M (fun _ t=>t=89) w1 (w1.setCell ⟨f,j,none⟩ v):=(Ku.refl _ _ _).set_blk lf hb1 rfl
 refine ⟨⟨_,hb1.set j _,?_,?_,?_,?_,?_,?_⟩,⟨u,ys,(he.keptU h1 ht.2.1).set_other (fun e=>n1 e) _,ownsRow_keptU (ownsRow_keptU hr h1 (fun _ _=>ht.2.2.2.1)) k2 (fun _ _=>by decide)⟩,⟨ds,(hs.keptU h1 ht.2.2.1).set_other (fun e=>n2 e) _,hs0⟩,lf,lE,lF,by have:=h1.size;simp;omega,by omega,(bx.keptU h1 ht.2.2.2.2).set_other (fun e=>by simp at e) _⟩
 · simp [q.size]
 · obtain ⟨p,e,i⟩:=q.mod
   exact ⟨p,by simp [show j≠0 by omega,e],i⟩
 · obtain ⟨p,e,i⟩:=q.go
   exact ⟨p,by simp [show j≠1 by omega,e],i⟩
 · obtain ⟨p,e⟩:=q.tc
   exact ⟨p,by simp [show j≠2 by omega,e]⟩
 · simp [show j≠10 by omega,q.syn]
 · intro i hi hi'
   by_cases hij:j=i
   · subst hij
     exact ⟨v,k,xs,by simp [q.size,show j < 11 by omega],ownsRow_keptU hr1 k2 (fun _ _=>hf _ hj hj'),hk⟩
   · obtain ⟨v',kk,xs',e1,e2,e3⟩:=q.rows i hi hi'
     exact ⟨v',kk,xs',by simp [hij,e1],ownsRow_keptU (ownsRow_keptU e2 h1 (fun _ _=>fty_ne hi hi' hj hj' (fun e=>hij e.symm))) k2 (fun _ _=>hf _ hi hi'),by omega⟩
theorem FSt.err {M:Nat} {w w1:World} {f E F:Nat} {nm:ByteArray} {m g:Bool} {n c:Nat} {v:Value} {xs:List Value} (h:FSt M w f E F nm m g n c) (h1:Ku M (fun _ t=>t=146) w w1)
   (hr1:w1.ownsRow M 146 7 v (n+1) xs):FSt M (w1.setCell ⟨E,0,none⟩ v) f E F nm m g (n+1) (c+1):=by
 obtain ⟨⟨cs,hb,q⟩,⟨u,ys,he,hr⟩,⟨ds,hs,hs0⟩,lf,lE,lF,lM,nc,bx⟩:=h
 have n1:f≠E:=hb.ne he (by decide)
 have n3:f+1≠E:=bx.ne he (by decide)
 have n2:F≠E:=hs.ne he (by decide)
 have hf:∀ i,3≤i→i≤9→fty i≠121∧fty i≠146:=by
   intro i hi hi'
   have e1:i=3∨i=4∨i=5∨i=6∨i=7∨i=8∨i=9:=by omega
   rcases e1 with rfl | rfl | rfl | rfl | rfl | rfl | rfl <;> decide
 have he1:=he.keptU h1 (by decide)
 have k2:Ku M (fun _ t=>t=121) w1 (w1.setCell ⟨E,0,none⟩ v):=(Ku.refl _ _ _).set_blk lE he1 rfl
 refine ⟨⟨cs,(hb.keptU h1 (by decide)).set_other (fun e=>n1 e) _,q.size,q.mod,q.go,q.tc,q.syn,?_⟩,⟨v,xs,he1.set 0 _,ownsRow_keptU hr1 k2 (fun _ _=>by decide)⟩,⟨ds,(hs.keptU h1 (by decide)).set_other (fun e=>n2 e) _,hs0⟩,lf,lE,lF,by have:=h1.size;simp;omega,by omega,(bx.keptU h1 (by decide)).set_other (fun e=>n3 e) _⟩
 intro i hi hi'
 obtain ⟨v',kk,xs',e1,e2,e3⟩:=q.rows i hi hi'
 exact ⟨v',kk,xs',e1,ownsRow_keptU (ownsRow_keptU e2 h1 (fun _ _=>(hf i hi hi').2)) k2 (fun _ _=>(hf i hi hi').1),by omega⟩
structure ClW (M:Nat) (w:World) (v0 f E F L:Nat) (nm:ByteArray) (a1 a2 a3:Int) (m g:Bool) (n c:Nat):Prop where
 cF:Blk w v0 64 #[.pointer (some ⟨f,0,none⟩)]
 cE:Blk w (v0+1) 123 #[.pointer (some ⟨E,0,none⟩)]
 cL:Blk w (v0+1+1) 92 #[.pointer (some ⟨L,0,none⟩)]
 lb:∃ ls,Blk w L 136 ls∧ls[3]?=some (.int .i64 a1)∧ls[4]?=some (.int .i64 a2)∧ls[5]?=some (.int .i64 a3)
 st:FSt M w f E F nm m g n c
theorem ClW.below {M:Nat} {w w':World} {v0 f E F L:Nat} {nm:ByteArray} {a1 a2 a3:Int} {m g:Bool} {n c:Nat} (h:ClW M w v0 f E F L nm a1 a2 a3 m g n c) (k:Below w.heap.size w w'):ClW M w' v0 f E F L nm a1 a2 a3 m g n c:=by
 obtain ⟨cF,cE,cL,⟨ls,lb,l3,l4,l5⟩,st⟩:=h
 have kp:=Kp.of_below (X:=fun _=>False) k
 exact ⟨cF.kept kp (fun h=>h),cE.kept kp (fun h=>h),cL.kept kp (fun h=>h),⟨ls,lb.kept kp (fun h=>h),l3,l4,l5⟩,st.below k⟩
def ErP (M:Nat) (w:World) (f E F:Nat) (nm:ByteArray) (m g:Bool) (n c:Nat) (e:Ending) (w':World):Prop:=e=.returned (.tuple #[])∧FSt M w' f E F nm m g (n+1) (c+1)∧Ku M (fun _ t=>t=146∨t=121) w w'
set_option maxHeartbeats 2000000 in
theorem err2_any (M:Nat) (w:World) (v0 f E F L:Nat) (nm:ByteArray) (a1 a2 a3:Int) (m g:Bool) (n c:Nat) (t:TypeId) (v:Value) (h:ClW M w v0 f E F L nm a1 a2 a3 m g n c) (hc:c≤1000000) :
   Calls Tryz.prog 65 #[.iface t v,.pointer (some ⟨v0+1,0,none⟩),.pointer (some ⟨v0,0,none⟩),.pointer (some ⟨v0+1+1,0,none⟩)] w (ErP M w f E F nm m g n c):=by
 unfold ErP
 obtain ⟨i0,hi0,hi1⟩:=Option.map_eq_some_iff.1 Tryz.infoErr
 simp only [Prod.mk.injEq] at hi1
 obtain ⟨z0,hz0,hz1⟩:=Option.map_eq_some_iff.1 hi1.1
 have hz2:=hi1.2.1
 have hz3:=hi1.2.2
 have HA:=hide h
 obtain ⟨bF,bE,bL,⟨ls,lb,l3,l4,l5⟩,st⟩:=h
 obtain ⟨cs,hb,q⟩:=st.fb
 obtain ⟨u,xs,he,hr⟩:=st.eb
 obtain ⟨ds,hs,hs0⟩:=st.sb
 obtain ⟨ua,uc,rfl⟩:=owns_any hr
 have HBS:=hide (And.intro bF (And.intro bE (And.intro bL (And.intro lb (And.intro hb (And.intro he hs))))))
 have HCS:=hide (And.intro l3 (And.intro l4 (And.intro l5 (And.intro q.syn hs0))))
 have n1:v0+1≠E:=bE.ne he (by decide)
 have n2:v0≠E:=bF.ne he (by decide)
 have n3:v0+1+1≠E:=bL.ne he (by decide)
 have n4:f≠E:=hb.ne he (by decide)
 have n5:F≠E:=hs.ne he (by decide)
 have n6:L≠E:=lb.ne he (by decide)
 have n1':=n1.symm
 have n2':=n2.symm
 have n3':=n3.symm
 have n4':=n4.symm
 have n5':=n5.symm
 have n6':=n6.symm
 have cF:=bF.cell 0 rfl
 have cE:=bE.cell 0 rfl
 have cL:=bL.cell 0 rfl
 have cS:=hb.cell 10 q.syn
 have cN:=hs.cell 0 hs0
 have c3:=lb.cell 3 l3
 have c4:=lb.cell 4 l4
 have c5:=lb.cell 5 l5
 have e0:w.cell? ⟨E,0,none⟩=some (.slice ua n uc):=he.cell 0 rfl
 have fE:∀ j,w.frozen? ⟨E,j,none⟩=false:=fun j=>he.free j
 have hnc:=st.nc
 have hlM:=st.lM
 have wE:=World.new_ne w _ cE
 have wF:=World.new_ne w _ cF
 have wL:=World.new_ne w _ cL
 have wS:=World.new_ne w _ cS
 have wN:=World.new_ne w _ cN
 have w3:=World.new_ne w _ c3
 have wl:=he.lt
 simp only at wE wF wL wS wN w3
 have HR:=hide hr
 have hm1:n+1≤maxLen:=by unfold maxLen;omega
 have hm2:(n+1) * 88≤140737488355328:=by omega
 clear hb q he hs hs0 st hi1 hr bF bE bL lb l3 l4 l5
 go_enter Tryz.func65,Tryz.ntmps65
 go_wp2_with fail
 change Code.wp _ (Code.region _ #[_,_,_,id _,_,_,_,_,_,_,_,_,_,_,_,_,_,_,_,_,_] _) _ _ _
 go_region_held3 (fun w'=>w'.cell? ⟨v0+1,0,none⟩=some (.pointer (some ⟨E,0,none⟩))∧w'.cell? ⟨v0,0,none⟩=some (.pointer (some ⟨f,0,none⟩))∧w'.cell? ⟨v0+1+1,0,none⟩=some (.pointer (some ⟨L,0,none⟩)) ∧
     w'.cell? ⟨f,10,none⟩=some (.pointer (some ⟨F,0,none⟩))∧w'.cell? ⟨F,0,none⟩=some (.string nm)∧w'.cell? ⟨L,3,none⟩=some (.int .i64 a1)∧w'.cell? ⟨L,4,none⟩=some (.int .i64 a2)∧w'.cell? ⟨L,5,none⟩=some (.int .i64 a3)) (go_keep)
   ((refine step_append_lies _ (by rfl) _ _ _ (by rfl) M 146 i0 _ 7 88 Tryz.und_errs hi0 hz0 hz2 hz3 hz1 (by omega) (.slice ua n uc) n xs (by rfl) (by repeat (first | exact HR.out | apply World.ownsRow.alloc | apply World.ownsRow.drew)) ⟨w.heap.size,0,none⟩ 1 1 [.string nm,.int .i64 a1,.int .i64 a2,.int .i64 a3,.string ⟨#[]⟩,.string ⟨#[]⟩,.iface t v] (by rfl) (by rfl) (news_one _ _ _) (by simp [Value.oneCell']) (by omega) hm1 hm2 (by simp;omega) (w.heap.size+1) (by simp) ?_;intro gg cap w3' hown3 hgrow3 hat3 hlt3;have k3:Ku M (fun _ u=>u=146) w w3':=(((Ku.refl M (fun _ u=>u=146) w).drew).alloc hlM _).trans (Ku.of_append (HR.out.drew.alloc _) hgrow3 (by simp;omega) (fun _ _=>rfl));have HST:=hide (HA.out.st.err (v:=.slice (some ⟨gg,0,none⟩) (n+1) cap) k3 hown3);have gE:=(HBS.out.2.1.keptU k3 (by decide)).cell 0 rfl;have gF:=(HBS.out.1.keptU k3 (by decide)).cell 0 rfl;have gL:=(HBS.out.2.2.1.keptU k3 (by decide)).cell 0 rfl;have gS:=(HBS.out.2.2.2.2.1.keptU k3 (by decide)).cell 10 HCS.out.2.2.2.1;have gN:=(HBS.out.2.2.2.2.2.2.keptU k3 (by decide)).cell 0 HCS.out.2.2.2.2;have g3:=(HBS.out.2.2.2.1.keptU k3 (by decide)).cell 3 HCS.out.1;have g4:=(HBS.out.2.2.2.1.keptU k3 (by decide)).cell 4 HCS.out.2.1;have g5:=(HBS.out.2.2.2.1.keptU k3 (by decide)).cell 5 HCS.out.2.2.1;have hE3:=HBS.out.2.2.2.2.2.1.keptU k3 (by decide);have d0:w3'.cell? ⟨E,0,none⟩=some (.slice ua n uc):=hE3.cell 0 rfl;have fd:∀ j,w3'.frozen? ⟨E,j,none⟩=false:=fun j=>hE3.free j;have HK3:=hide ((k3.mono (S':=fun _ t=>t=146∨t=121) (fun _ _ e=>Or.inl e)).set (u:=.slice (some ⟨gg,0,none⟩) (n+1) cap) (b:=E) (o:=0) HA.out.st.lE (fun cs t fz e=>Or.inr (by rw [HBS.out.2.2.2.2.2.1.out] at e;injection e with e;injection e with _ e;exact e.symm)));clear hown3 hgrow3 hat3 hlt3 k3 hE3))
 all_goals go_wp2_with fail
 all_goals go_returns
 all_goals exact ⟨rfl,HST.out,HK3.out⟩
abbrev clV (v0:Nat):Value:=.func (.func 65) #[] #[.pointer (some ⟨v0+1,0,none⟩),.pointer (some ⟨v0,0,none⟩),.pointer (some ⟨v0+1+1,0,none⟩)]
set_option maxHeartbeats 2000000 in
theorem err3_any (M:Nat) (w:World) (v0 v6 f E F L:Nat) (nm s:ByteArray) (a1 a2 a3:Int) (m g:Bool) (n c:Nat) (args:Value) (t6:TypeId) (h:ClW M w v0 f E F L nm a1 a2 a3 m g n c) (h6:Blk w v6 t6 #[clV v0]) (ht:t6=156) (hc:c≤1000000) :
   Calls Tryz.prog 66 #[.string s,args,.pointer (some ⟨v6,0,none⟩)] w (ErP M w f E F nm m g n c):=by
 unfold ErP
 subst ht
 have hlM:=h.st.lM
 have HA:=hide h
 have H6:=hide h6
 have c6:w.cell? ⟨v6,0,none⟩=some (clV v0):=h6.cell 0 rfl
 have w6:=World.new_ne w _ c6
 simp only at w6
 clear h h6
 go_enter Tryz.func66,Tryz.ntmps66
 go_wp2_with fail
 go_region_held3 (fun w'=>w'.cell? ⟨v6,0,none⟩=some (clV v0)) (go_keep)
   (first
     | (go_at_call 53;refine (errors_new _ _).mono ?_;rintro e w1 ⟨rfl,rfl⟩;have hb1:Below w.heap.size w (w.drew.alloc (Obj.cells #[Value.string s] 182)):=(Below.refl _ w).drew.alloc (Nat.le_refl _) _;have HA1:=hide (HA.out.below hb1))
     | (go_at_call 65;go_fit (err2_any M _ v0 f E F L nm a1 a2 a3 m g n c _ _ HA1.out hc);rintro e w2 ⟨rfl,hs2,hb2⟩;have g3:w2.cell? ⟨v6,0,none⟩=some (clV v0):=(((H6.out.drew.alloc _).keptU hb2 (by decide)).cell 0 rfl);have HG:=hide (And.intro hs2 (((Ku.of_below hb1 hlM)).trans hb2));clear hs2 hb2))
 all_goals go_wp2_with fail
 all_goals go_returns
 all_goals exact ⟨rfl,HG.out.1,HG.out.2⟩
end
end Go.Proofs.YtifkpibjeamfkaaGreatFmt
