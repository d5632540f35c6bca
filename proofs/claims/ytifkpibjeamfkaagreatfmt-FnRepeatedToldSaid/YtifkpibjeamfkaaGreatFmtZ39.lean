/-
  (*File).add: what it wants, what it gives; go, toolchain; the requirements that are refused.
-/
import Derived.Test.YtifkpibjeamfkaaGreatFmtZ33
import Derived.Test.YtifkpibjeamfkaaGreatFmtZ38
set_option linter.unusedVariables false
set_option linter.unusedSimpArgs false
set_option maxRecDepth 100000
namespace Go.Proofs.YtifkpibjeamfkaaGreatFmt
section
open Go.RowKit Go.Proofs
structure AddH (M N:Nat) (w:World) (f E F L:Nat) (b:Option Nat) (nm:ByteArray) (m g:Bool) (n c:Nat) (R:Nat) (cur:Array Value) (fa:Nat→Int):Prop where
 st:FSt M w f E F nm m g n c
 coms:ComsAt N w L 136
 lb:∃ ls,∃ a1 a2 a3:Int,Blk w L 136 ls∧ls[3]?=some (.int .i64 a1)∧ls[4]?=some (.int .i64 a2)∧ls[5]?=some (.int .i64 a3)
 bk:∀ X,b=some X→ComsAt N w X 143
 row:Blk w R 9 cur
 pr:PrTab w
 big:0 < M
 tab:OpTab w 4 fa
 lt:4 < M
 fb:∀ c,0≤fa c∧fa c < 256
 hc:c≤1000000
theorem ComsAt.below {N:Nat} {w w':World} {b:Nat} {t:TypeId} (h:ComsAt N w b t) (k:Below w.heap.size w w'):ComsAt N w' b t:=by
 obtain ⟨cs,bv,sv,c1,c2,hb,h0,h1,hc1,hc2⟩:=h
 exact ⟨cs,bv,sv,c1,c2,hb.kept (Kp.of_below (X:=fun _=>False) k) (fun h=>h),h0,h1,cm_below hc1 k (Nat.le_refl _),cm_below hc2 k (Nat.le_refl _)⟩
theorem AddH.below {M N:Nat} {w w':World} {f E F L:Nat} {b:Option Nat} {nm:ByteArray} {m g:Bool} {n c R:Nat} {cur:Array Value} {fa:Nat→Int} (h:AddH M N w f E F L b nm m g n c R cur fa) (k:Below w.heap.size w w'):AddH M N w' f E F L b nm m g n c R cur fa:=by
 have kp:=Kp.of_below (X:=fun _=>False) k
 obtain ⟨ls,a1,a2,a3,lb,l3,l4,l5⟩:=h.lb
 exact ⟨h.st.below k,h.coms.below k,⟨ls,a1,a2,a3,lb.kept kp (fun h=>h),l3,l4,l5⟩,fun X e=>(h.bk X e).below k,h.row.kept kp (fun h=>h),h.pr.keptT (N:=w.heap.size) (S:=fun _=>True) ⟨k,fun k cs t fz e hn=>absurd True.intro hn⟩ (Nat.lt_of_lt_of_le h.big h.st.lM),
   h.big,h.tab.below k (Nat.lt_of_lt_of_le h.lt h.st.lM),h.lt,h.fb,h.hc⟩
structure AI (M N:Nat) (w W:World) (f E F L:Nat) (b:Option Nat) (nm verb:ByteArray) (av:Value) (m g:Bool) (n c:Nat) (R:Nat) (cur:Array Value) (fa:Nat→Int):Prop where
 h:AddH M N W f E F L b nm m g n c R cur fa
 aw:AddW w W f E L verb av 156 (clV w.heap.size)
 lM:M≤w.heap.size
section
variable {M N:Nat} {w W W':World} {f E F L:Nat} {b:Option Nat} {nm verb:ByteArray} {av:Value} {m g:Bool} {n c R:Nat} {cur:Array Value} {fa:Nat→Int}
theorem AddW.step {t6:TypeId} {fv:Value} (h:AddW w W f E L verb av t6 fv) (k:Below W.heap.size W W'):AddW w W' f E L verb av t6 fv:=by
 have kp:=Kp.of_below (X:=fun _=>False) k
 exact ⟨h.b0.kept kp (fun h=>h),h.b1.kept kp (fun h=>h),h.b2.kept kp (fun h=>h),h.b3.kept kp (fun h=>h),h.b4.kept kp (fun h=>h),h.b5.kept kp (fun h=>h),h.below.trans (k.mono h.below.size)⟩
theorem AI.step (h:AI M N w W f E F L b nm verb av m g n c R cur fa) (k:Below W.heap.size W W'):AI M N w W' f E F L b nm verb av m g n c R cur fa:=⟨h.h.below k,h.aw.step k,h.lM⟩
theorem AI.cl (h:AI M N w W f E F L b nm verb av m g n c R cur fa):∃ a1 a2 a3,ClW M W w.heap.size f E F L nm a1 a2 a3 m g n c:=by
 obtain ⟨ls,a1,a2,a3,lb,l3,l4,l5⟩:=h.h.lb
 exact ⟨a1,a2,a3,h.aw.b0,h.aw.b1,h.aw.b2,⟨ls,lb,l3,l4,l5⟩,h.h.st⟩
theorem AI.enter (h:AddH M N w f E F L b nm m g n c R cur fa):AI M N w (addVars w f E L verb av 156 (clV w.heap.size)) f E F L b nm verb av m g n c R cur fa :=
 have aw:=addW w f E L verb av 156 (clV w.heap.size)
 ⟨h.below aw.below,aw,h.st.lM⟩
def AdR (M:Nat) (w:World) (f E F:Nat) (nm:ByteArray) (m g:Bool) (n c:Nat) (X:Bool→Bool→Nat→Prop) (e:Ending) (w':World):Prop :=
 e=.returned (.tuple #[])∧Below M w w'∧∃ m' g' n',FSt M w' f E F nm m' g' n' (c+1)∧n≤n'∧(m=true→m'=true)∧(g=true→g'=true)∧X m' g' n'
theorem AdR.mono {X Y:Bool→Bool→Nat→Prop} {e:Ending} {w':World} (h:AdR M w f E F nm m g n c X e w') (k:∀ m' g' n',X m' g' n'→Y m' g' n'):AdR M w f E F nm m g n c Y e w':=by
 obtain ⟨h1,h2,m',g',n',h3,h4,h5,h6,h7⟩:=h
 exact ⟨h1,h2,m',g',n',h3,h4,h5,h6,k _ _ _ h7⟩
theorem AI.fail {X:Bool→Bool→Nat→Prop} {e:Ending} {w':World} (h:AI M N w W f E F L b nm verb av m g n c R cur fa) (k:ErP M W f E F nm m g n c e w') (hX:X m g (n+1)):AdR M w f E F nm m g n c X e w' :=
 ⟨k.1,(h.aw.below.mono h.lM).trans k.2.2.below,m,g,n+1,k.2.1,by omega,id,id,hX⟩
theorem AI.errorf (h:AI M N w W f E F L b nm verb av m g n c R cur fa) (s:ByteArray) (args:Value):Calls Tryz.prog 66 #[.string s,args,.pointer (some ⟨w.heap.size+1+1+1+1+1,0,none⟩)] W (ErP M W f E F nm m g n c):=by
 obtain ⟨a1,a2,a3,hc⟩:=h.cl
 exact err3_any M W _ _ f E F L nm s a1 a2 a3 m g n c args 156 hc h.aw.b5 rfl h.h.hc
theorem AI.wrap (h:AI M N w W f E F L b nm verb av m g n c R cur fa) (t:TypeId) (v:Value):Calls Tryz.prog 65 #[.iface t v,.pointer (some ⟨w.heap.size+1,0,none⟩),.pointer (some ⟨w.heap.size,0,none⟩),.pointer (some ⟨w.heap.size+1+1,0,none⟩)] W (ErP M W f E F nm m g n c):=by
 obtain ⟨a1,a2,a3,hc⟩:=h.cl
 exact err2_any M W _ f E F L nm a1 a2 a3 m g n c t v hc h.h.hc
end
def ErX (n:Nat) (_ _:Bool) (n':Nat):Prop:=n < n'
def GoX (g:Bool) (n:Nat) (_ g':Bool) (n':Nat):Prop:=(g=true→n < n')∧(g'=true∨n < n')
def MoX (m:Bool) (n:Nat) (m' _:Bool) (n':Nat):Prop:=(m=true→n < n')∧(m=false→m'=true)
def NoX (_ _:Bool) (_:Nat):Prop:=True
theorem AddH.bigW {M N:Nat} {w:World} {f E F L:Nat} {b:Option Nat} {nm:ByteArray} {m g:Bool} {n c R:Nat} {cur:Array Value} {fa:Nat→Int} (h:AddH M N w f E F L b nm m g n c R cur fa):0 < w.heap.size:=Nat.lt_of_lt_of_le h.big h.st.lM
theorem AddH.ltW {M N:Nat} {w:World} {f E F L:Nat} {b:Option Nat} {nm:ByteArray} {m g:Bool} {n c R:Nat} {cur:Array Value} {fa:Nat→Int} (h:AddH M N w f E F L b nm m g n c R cur fa):4 < w.heap.size:=Nat.lt_of_lt_of_le h.lt h.st.lM
theorem AI.good {M N:Nat} {w W W':World} {f E F L:Nat} {b:Option Nat} {nm verb:ByteArray} {av:Value} {m g m' g':Bool} {n c R:Nat} {cur:Array Value} {fa:Nat→Int} {X:Bool→Bool→Nat→Prop} (h:AI M N w W f E F L b nm verb av m g n c R cur fa)
   (st:FSt M W' f E F nm m' g' n (c+1)) (k:Below M W W') (hm:m=true→m'=true) (hg:g=true→g'=true) (hX:X m' g' n):AdR M w f E F nm m g n c X (.returned (.tuple #[])) W' :=
 ⟨rfl,(h.aw.below.mono h.lM).trans k,m',g',n,st,Nat.le_refl _,hm,hg,hX⟩
def stT:List TypeId:=[64,89,121,129,146,fty 3,fty 4,fty 5,fty 6,fty 7,fty 8,fty 9]
theorem fty_mem (j:Nat) (hj:3≤j) (hj':j≤9):fty j ∈ stT:=by
 have e1:j=3∨j=4∨j=5∨j=6∨j=7∨j=8∨j=9:=by omega
 rcases e1 with rfl | rfl | rfl | rfl | rfl | rfl | rfl <;> simp [stT]
theorem FSt.other {M:Nat} {t:TypeId} {w w':World} {f E F:Nat} {nm:ByteArray} {m g:Bool} {n c:Nat} (h:FSt M w f E F nm m g n c) (k:Ku M (fun _ u=>u=t) w w') (ht:t ∉ stT):FSt M w' f E F nm m g n c :=
 h.ku k (fun _ e=>ht (e ▸ by simp [stT])) (fun _ e=>ht (e ▸ by simp [stT])) (fun _ e=>ht (e ▸ by simp [stT])) (fun _ e=>ht (e ▸ by simp [stT])) (fun _ j a b e=>ht (e ▸ fty_mem j a b)) (fun _ e=>ht (e ▸ by simp [stT]))
set_option maxHeartbeats 8000000 in
theorem add_reqN (M N:Nat) (w:World) (f E F L:Nat) (b:Option Nat) (nm:ByteArray) (m g:Bool) (n c R:Nat) (cur:Array Value) (fa:Nat→Int) (h:AddH M N w f E F L b nm m g n c R cur fa) (a:Option Addr) (k cap:Nat) (hk:k≠2) :
   Calls Tryz.prog 52 #[.pointer (some ⟨f,0,none⟩),.pointer (some ⟨E,0,none⟩),.pointer (b.map fun X=>⟨X,0,none⟩),.pointer (some ⟨L,0,none⟩),.string ⟨#[114,101,113,117,105,114,101]⟩,.slice a k cap,.nilFunc,.bool true] w
     (AdR M w f E F nm m g n c (ErX n)):=by
 have hmf:∀ (fn:Fn) (first cap:Array Value) (w:World),(Instr.makeFunc fn first cap).run Tryz.prog w=.ok (.func fn first cap) w:=fun _ _ _ _=>rfl
 have hk2:((k:Int) != 2)=true:=by simp only [bne_iff_ne,ne_eq];omega
 clear hk
 have hI:=AI.enter (verb:=⟨#[114,101,113,117,105,114,101]⟩) (av:=.slice a k cap) h
 clear h
 go_enter Tryz.func52,Tryz.ntmps52
 go_upto_region 11 with fail
 change Code.wp _ _ _ _ (addVars w f E L ⟨#[114,101,113,117,105,114,101]⟩ (.slice a k cap) 156 (clV w.heap.size))
 generalize addVars w f E L ⟨#[114,101,113,117,105,114,101]⟩ (.slice a k cap) 156 (clV w.heap.size)=W at *
 have q0:W.cell? ⟨w.heap.size,0,none⟩=some (.pointer (some ⟨f,0,none⟩)):=hI.aw.b0.cell 0 rfl
 have q2:W.cell? ⟨w.heap.size+1+1,0,none⟩=some (.pointer (some ⟨L,0,none⟩)):=hI.aw.b2.cell 0 rfl
 have q3:W.cell? ⟨w.heap.size+1+1+1,0,none⟩=some (.string ⟨#[114,101,113,117,105,114,101]⟩):=hI.aw.b3.cell 0 rfl
 have q4:W.cell? ⟨w.heap.size+1+1+1+1,0,none⟩=some (.slice a k cap):=hI.aw.b4.cell 0 rfl
 have HI:=hide hI
 clear hI
 go_wp2_with fail
 go_fit ((HI.out.step (by repeat (with_reducible first | exact Below.refl _ _ | refine Below.drew ?_ | refine Below.alloc ?_ (by first | exact Nat.le_refl _ | (simp <;> omega)) _))).errorf _ _)
 rintro e w9 ⟨rfl,hE⟩
 have HE:=hide hE
 clear hE
 go_wp2_with fail
 go_returns
 exact AI.fail (HI.out.step (by repeat (with_reducible first | exact Below.refl _ _ | refine Below.drew ?_ | refine Below.alloc ?_ (by first | exact Nat.le_refl _ | (simp <;> omega)) _))) ⟨rfl,HE.out⟩ (Nat.lt_succ_self n)
set_option maxHeartbeats 8000000 in
theorem add_go (M N:Nat) (w:World) (f E F L:Nat) (b:Option Nat) (nm:ByteArray) (m g:Bool) (n c R:Nat) (cur:Array Value) (fa:Nat→Int) (h:AddH M N w f E F L b nm m g n c R cur fa) (o cap:Nat) (v:ByteArray) (hv:cur[o]?=some (.string v)) (hl:v.size≤1000000) :
   Calls Tryz.prog 52 #[.pointer (some ⟨f,0,none⟩),.pointer (some ⟨E,0,none⟩),.pointer (b.map fun X=>⟨X,0,none⟩),.pointer (some ⟨L,0,none⟩),.string ⟨#[103,111]⟩,.slice (some ⟨R,o,none⟩) 1 (cap+1),.nilFunc,.bool true] w
     (AdR M w f E F nm m g n c (GoX g n)):=by
 have hmf:∀ (fn:Fn) (first cap:Array Value) (w:World),(Instr.makeFunc fn first cap).run Tryz.prog w=.ok (.func fn first cap) w:=fun _ _ _ _=>rfl
 have hI:=AI.enter (verb:=⟨#[103,111]⟩) (av:=.slice (some ⟨R,o,none⟩) 1 (cap+1)) h
 clear h
 go_enter Tryz.func52,Tryz.ntmps52
 go_upto_region 11 with fail
 change Code.wp _ _ _ _ (addVars w f E L ⟨#[103,111]⟩ (.slice (some ⟨R,o,none⟩) 1 (cap+1)) 156 (clV w.heap.size))
 generalize addVars w f E L ⟨#[103,111]⟩ (.slice (some ⟨R,o,none⟩) 1 (cap+1)) 156 (clV w.heap.size)=W at *
 have q0:W.cell? ⟨w.heap.size,0,none⟩=some (.pointer (some ⟨f,0,none⟩)):=hI.aw.b0.cell 0 rfl
 have q2:W.cell? ⟨w.heap.size+1+1,0,none⟩=some (.pointer (some ⟨L,0,none⟩)):=hI.aw.b2.cell 0 rfl
 have q3:W.cell? ⟨w.heap.size+1+1+1,0,none⟩=some (.string ⟨#[103,111]⟩):=hI.aw.b3.cell 0 rfl
 have q4:W.cell? ⟨w.heap.size+1+1+1+1,0,none⟩=some (.slice (some ⟨R,o,none⟩) 1 (cap+1)):=hI.aw.b4.cell 0 rfl
 have q6:W.cell? ⟨R,o,none⟩=some (.string v):=hI.h.row.cell o hv
 obtain ⟨cs,hfb,hfc⟩:=hI.h.st.fb
 obtain ⟨p,hp,hpg⟩:=hfc.go
 have q7:W.cell? ⟨f,1,none⟩=some (.pointer p):=hfb.cell 1 hp
 have q8:W.frozen? ⟨f,1,none⟩=false:=hfb.free 1
 have hfl:=hfb.lt
 have hRl:=hI.h.row.lt
 have hHl:=hI.aw.b4.lt
 have HFB:=hide hfb
 have HSZ:=hide hfc.size
 have HV:=hide hv
 clear hfb hfc hp hv
 have HI:=hide hI
 clear hI
 rcases p with _ | p
 · obtain rfl:g=false:=by simpa using hpg.symm
   clear hpg
   go_wp2_with fail
   refine (matchGo_any v W hl).mono ?_
   rintro e w1 ⟨⟨bb,rfl⟩,rfl⟩
   cases bb
   · go_wp2_with fail
     go_fit ((HI.out.step (by repeat (with_reducible first | exact Below.refl _ _ | refine Below.drew ?_ | refine Below.alloc ?_ (by first | exact Nat.le_refl _ | (simp <;> omega)) _))).errorf _ _)
     rintro e w9 ⟨rfl,hE⟩
     have HE:=hide hE
     clear hE
     go_wp2_with fail
     go_returns
     exact AI.fail (HI.out.step (by repeat (with_reducible first | exact Below.refl _ _ | refine Below.drew ?_ | refine Below.alloc ?_ (by first | exact Nat.le_refl _ | (simp <;> omega)) _))) ⟨rfl,HE.out⟩ ⟨fun _=>Nat.lt_succ_self n,Or.inr (Nat.lt_succ_self n)⟩
   · go_upto_region 28 with fail
     have nf0:w.heap.size≠f:=HI.out.aw.b0.ne HFB.out (by decide)
     have nf4:w.heap.size+1+1+1+1≠f:=HI.out.aw.b4.ne HFB.out (by decide)
     have nfR:R≠f:=HI.out.h.row.ne HFB.out (by decide)
     have r0:((W.setCell ⟨f,1,none⟩ (.pointer (some ⟨W.heap.size,0,none⟩))).alloc (Obj.cells #[.string ⟨#[]⟩,.pointer (some ⟨L,0,none⟩)] 96)).cell? ⟨w.heap.size,0,none⟩=some (.pointer (some ⟨f,0,none⟩)):=((HI.out.aw.b0.set_other (a:=⟨f,1,none⟩) nf0 _).alloc _).cell 0 rfl
     have r4:((W.setCell ⟨f,1,none⟩ (.pointer (some ⟨W.heap.size,0,none⟩))).alloc (Obj.cells #[.string ⟨#[]⟩,.pointer (some ⟨L,0,none⟩)] 96)).cell? ⟨w.heap.size+1+1+1+1,0,none⟩=some (.slice (some ⟨R,o,none⟩) 1 (cap+1)):=((HI.out.aw.b4.set_other (a:=⟨f,1,none⟩) nf4 _).alloc _).cell 0 rfl
     have r6:((W.setCell ⟨f,1,none⟩ (.pointer (some ⟨W.heap.size,0,none⟩))).alloc (Obj.cells #[.string ⟨#[]⟩,.pointer (some ⟨L,0,none⟩)] 96)).cell? ⟨R,o,none⟩=some (.string v):=((HI.out.h.row.set_other (a:=⟨f,1,none⟩) nfR _).alloc _).cell o HV.out
     have r1:((W.setCell ⟨f,1,none⟩ (.pointer (some ⟨W.heap.size,0,none⟩))).alloc (Obj.cells #[.string ⟨#[]⟩,.pointer (some ⟨L,0,none⟩)] 96)).cell? ⟨f,1,none⟩=some (.pointer (some ⟨W.heap.size,0,none⟩)):=((HFB.out.set 1 _).alloc _).cell 1 (by simp [HSZ.out])
     have hsz:(W.setCell ⟨f,1,none⟩ (.pointer (some ⟨W.heap.size,0,none⟩))).heap.size=W.heap.size:=by simp
     have rg:=Blk.newAt (W.setCell ⟨f,1,none⟩ (.pointer (some ⟨W.heap.size,0,none⟩))) 96 #[.string ⟨#[]⟩,.pointer (some ⟨L,0,none⟩)] _ hsz
     have HST:=hide ((HI.out.h.st.ptr 1 (by decide) ⟨W.heap.size,0,none⟩).below ((Below.refl _ _).alloc (Nat.le_refl _) (Obj.cells #[.string ⟨#[]⟩,.pointer (some ⟨L,0,none⟩)] 96)))
     have HBL:=hide ((((Below.refl M W).setCell (p:=⟨f,1,none⟩) HI.out.h.st.lf (.pointer (some ⟨W.heap.size,0,none⟩))).alloc (by simpa using HI.out.h.st.lM) (Obj.cells #[.string ⟨#[]⟩,.pointer (some ⟨L,0,none⟩)] 96)))
     have hszA:((W.setCell ⟨f,1,none⟩ (.pointer (some ⟨W.heap.size,0,none⟩))).alloc (Obj.cells #[.string ⟨#[]⟩,.pointer (some ⟨L,0,none⟩)] 96)).heap.size=W.heap.size+1:=by simp
     have hMW:=HI.out.h.st.lM
     generalize ((W.setCell ⟨f,1,none⟩ (.pointer (some ⟨W.heap.size,0,none⟩))).alloc (Obj.cells #[.string ⟨#[]⟩,.pointer (some ⟨L,0,none⟩)] 96))=W2 at *
     have g0:W2.cell? ⟨W.heap.size,0,none⟩=some (.string ⟨#[]⟩):=rg.cell 0 rfl
     have g1:W2.frozen? ⟨W.heap.size,0,none⟩=false:=rg.free 0
     have x1:f≠W.heap.size:=by omega
     have x2:w.heap.size≠W.heap.size:=by omega
     have x3:w.heap.size+1+1+1+1≠W.heap.size:=by omega
     have x4:R≠W.heap.size:=by omega
     have x1':=x1.symm
     have x2':=x2.symm
     have x3':=x3.symm
     have x4':=x4.symm
     have HRG:=hide rg
     go_region_held3 (fun w'=>w'.cell? ⟨w.heap.size,0,none⟩=some (.pointer (some ⟨f,0,none⟩))∧w'.cell? ⟨w.heap.size+1+1+1+1,0,none⟩=some (.slice (some ⟨R,o,none⟩) 1 (cap+1))∧w'.cell? ⟨R,o,none⟩=some (.string v)∧w'.cell? ⟨f,1,none⟩=some (.pointer (some ⟨W.heap.size,0,none⟩))) (go_keep) (fail)
     all_goals go_wp2_with fail
     all_goals go_returns
     all_goals exact AI.good HI.out (((HST.out.other (t:=96) (((Ku.refl M _ W2).set_blk hMW HRG.out rfl).drew) (by decide))).more (Nat.le_succ c)) (HBL.out.trans (((Below.refl M W2).setCell (p:=⟨W.heap.size,0,none⟩) hMW _).drew)) (by simp) (by simp) ⟨fun e=>Bool.noConfusion e,Or.inl (by simp)⟩
 · obtain rfl:g=true:=by simpa using hpg.symm
   clear hpg
   go_wp2_with fail
   go_fit ((HI.out.step (by repeat (with_reducible first | exact Below.refl _ _ | refine Below.drew ?_ | refine Below.alloc ?_ (by first | exact Nat.le_refl _ | (simp <;> omega)) _))).errorf _ _)
   rintro e w9 ⟨rfl,hE⟩
   have HE:=hide hE
   clear hE
   go_wp2_with fail
   go_returns
   exact AI.fail (HI.out.step (by repeat (with_reducible first | exact Below.refl _ _ | refine Below.drew ?_ | refine Below.alloc ?_ (by first | exact Nat.le_refl _ | (simp <;> omega)) _))) ⟨rfl,HE.out⟩ ⟨fun _=>Nat.lt_succ_self n,Or.inr (Nat.lt_succ_self n)⟩
set_option maxHeartbeats 8000000 in
theorem add_tc (M N:Nat) (w:World) (f E F L:Nat) (b:Option Nat) (nm:ByteArray) (m g:Bool) (n c R:Nat) (cur:Array Value) (fa:Nat→Int) (h:AddH M N w f E F L b nm m g n c R cur fa) (o cap:Nat) (v:ByteArray) (hv:cur[o]?=some (.string v)) (hl:v.size≤1000000) :
   Calls Tryz.prog 52 #[.pointer (some ⟨f,0,none⟩),.pointer (some ⟨E,0,none⟩),.pointer (b.map fun X=>⟨X,0,none⟩),.pointer (some ⟨L,0,none⟩),.string ⟨#[116,111,111,108,99,104,97,105,110]⟩,.slice (some ⟨R,o,none⟩) 1 (cap+1),.nilFunc,.bool true] w
     (AdR M w f E F nm m g n c (NoX)):=by
 have hmf:∀ (fn:Fn) (first cap:Array Value) (w:World),(Instr.makeFunc fn first cap).run Tryz.prog w=.ok (.func fn first cap) w:=fun _ _ _ _=>rfl
 have hI:=AI.enter (verb:=⟨#[116,111,111,108,99,104,97,105,110]⟩) (av:=.slice (some ⟨R,o,none⟩) 1 (cap+1)) h
 clear h
 go_enter Tryz.func52,Tryz.ntmps52
 go_upto_region 11 with fail
 change Code.wp _ _ _ _ (addVars w f E L ⟨#[116,111,111,108,99,104,97,105,110]⟩ (.slice (some ⟨R,o,none⟩) 1 (cap+1)) 156 (clV w.heap.size))
 generalize addVars w f E L ⟨#[116,111,111,108,99,104,97,105,110]⟩ (.slice (some ⟨R,o,none⟩) 1 (cap+1)) 156 (clV w.heap.size)=W at *
 have q0:W.cell? ⟨w.heap.size,0,none⟩=some (.pointer (some ⟨f,0,none⟩)):=hI.aw.b0.cell 0 rfl
 have q2:W.cell? ⟨w.heap.size+1+1,0,none⟩=some (.pointer (some ⟨L,0,none⟩)):=hI.aw.b2.cell 0 rfl
 have q3:W.cell? ⟨w.heap.size+1+1+1,0,none⟩=some (.string ⟨#[116,111,111,108,99,104,97,105,110]⟩):=hI.aw.b3.cell 0 rfl
 have q4:W.cell? ⟨w.heap.size+1+1+1+1,0,none⟩=some (.slice (some ⟨R,o,none⟩) 1 (cap+1)):=hI.aw.b4.cell 0 rfl
 have q6:W.cell? ⟨R,o,none⟩=some (.string v):=hI.h.row.cell o hv
 obtain ⟨cs,hfb,hfc⟩:=hI.h.st.fb
 obtain ⟨p,hp⟩:=hfc.tc
 have q7:W.cell? ⟨f,2,none⟩=some (.pointer p):=hfb.cell 2 hp
 have q8:W.frozen? ⟨f,2,none⟩=false:=hfb.free 2
 have hfl:=hfb.lt
 have hRl:=hI.h.row.lt
 have hHl:=hI.aw.b4.lt
 have HFB:=hide hfb
 have HSZ:=hide hfc.size
 have HV:=hide hv
 clear hfb hfc hp hv
 have HI:=hide hI
 clear hI
 rcases p with _ | p
 · go_wp2_with fail
   refine (matchTool_any v W).mono ?_
   rintro e w1 ⟨⟨bb,rfl⟩,rfl⟩
   cases bb
   · go_wp2_with fail
     go_fit ((HI.out.step (by repeat (with_reducible first | exact Below.refl _ _ | refine Below.drew ?_ | refine Below.alloc ?_ (by first | exact Nat.le_refl _ | (simp <;> omega)) _))).errorf _ _)
     rintro e w9 ⟨rfl,hE⟩
     have HE:=hide hE
     clear hE
     go_wp2_with fail
     go_returns
     exact AI.fail (HI.out.step (by repeat (with_reducible first | exact Below.refl _ _ | refine Below.drew ?_ | refine Below.alloc ?_ (by first | exact Nat.le_refl _ | (simp <;> omega)) _))) ⟨rfl,HE.out⟩ True.intro
   · go_upto_region 37 with fail
     have nf0:w.heap.size≠f:=HI.out.aw.b0.ne HFB.out (by decide)
     have nf4:w.heap.size+1+1+1+1≠f:=HI.out.aw.b4.ne HFB.out (by decide)
     have nfR:R≠f:=HI.out.h.row.ne HFB.out (by decide)
     have r0:((W.setCell ⟨f,2,none⟩ (.pointer (some ⟨W.heap.size,0,none⟩))).alloc (Obj.cells #[.string ⟨#[]⟩,.pointer (some ⟨L,0,none⟩)] 98)).cell? ⟨w.heap.size,0,none⟩=some (.pointer (some ⟨f,0,none⟩)):=((HI.out.aw.b0.set_other (a:=⟨f,2,none⟩) nf0 _).alloc _).cell 0 rfl
     have r4:((W.setCell ⟨f,2,none⟩ (.pointer (some ⟨W.heap.size,0,none⟩))).alloc (Obj.cells #[.string ⟨#[]⟩,.pointer (some ⟨L,0,none⟩)] 98)).cell? ⟨w.heap.size+1+1+1+1,0,none⟩=some (.slice (some ⟨R,o,none⟩) 1 (cap+1)):=((HI.out.aw.b4.set_other (a:=⟨f,2,none⟩) nf4 _).alloc _).cell 0 rfl
     have r6:((W.setCell ⟨f,2,none⟩ (.pointer (some ⟨W.heap.size,0,none⟩))).alloc (Obj.cells #[.string ⟨#[]⟩,.pointer (some ⟨L,0,none⟩)] 98)).cell? ⟨R,o,none⟩=some (.string v):=((HI.out.h.row.set_other (a:=⟨f,2,none⟩) nfR _).alloc _).cell o HV.out
     have r1:((W.setCell ⟨f,2,none⟩ (.pointer (some ⟨W.heap.size,0,none⟩))).alloc (Obj.cells #[.string ⟨#[]⟩,.pointer (some ⟨L,0,none⟩)] 98)).cell? ⟨f,2,none⟩=some (.pointer (some ⟨W.heap.size,0,none⟩)):=((HFB.out.set 2 _).alloc _).cell 2 (by simp [HSZ.out])
     have hsz:(W.setCell ⟨f,2,none⟩ (.pointer (some ⟨W.heap.size,0,none⟩))).heap.size=W.heap.size:=by simp
     have rg:=Blk.newAt (W.setCell ⟨f,2,none⟩ (.pointer (some ⟨W.heap.size,0,none⟩))) 98 #[.string ⟨#[]⟩,.pointer (some ⟨L,0,none⟩)] _ hsz
     have HST:=hide ((HI.out.h.st.ptr 2 (by decide) ⟨W.heap.size,0,none⟩).below ((Below.refl _ _).alloc (Nat.le_refl _) (Obj.cells #[.string ⟨#[]⟩,.pointer (some ⟨L,0,none⟩)] 98)))
     have HBL:=hide ((((Below.refl M W).setCell (p:=⟨f,2,none⟩) HI.out.h.st.lf (.pointer (some ⟨W.heap.size,0,none⟩))).alloc (by simpa using HI.out.h.st.lM) (Obj.cells #[.string ⟨#[]⟩,.pointer (some ⟨L,0,none⟩)] 98)))
     have hszA:((W.setCell ⟨f,2,none⟩ (.pointer (some ⟨W.heap.size,0,none⟩))).alloc (Obj.cells #[.string ⟨#[]⟩,.pointer (some ⟨L,0,none⟩)] 98)).heap.size=W.heap.size+1:=by simp
     have hMW:=HI.out.h.st.lM
     generalize ((W.setCell ⟨f,2,none⟩ (.pointer (some ⟨W.heap.size,0,none⟩))).alloc (Obj.cells #[.string ⟨#[]⟩,.pointer (some ⟨L,0,none⟩)] 98))=W2 at *
     have g0:W2.cell? ⟨W.heap.size,0,none⟩=some (.string ⟨#[]⟩):=rg.cell 0 rfl
     have g1:W2.frozen? ⟨W.heap.size,0,none⟩=false:=rg.free 0
     have x1:f≠W.heap.size:=by omega
     have x2:w.heap.size≠W.heap.size:=by omega
     have x3:w.heap.size+1+1+1+1≠W.heap.size:=by omega
     have x4:R≠W.heap.size:=by omega
     have x1':=x1.symm
     have x2':=x2.symm
     have x3':=x3.symm
     have x4':=x4.symm
     have HRG:=hide rg
     go_region_held3 (fun w'=>w'.cell? ⟨w.heap.size,0,none⟩=some (.pointer (some ⟨f,0,none⟩))∧w'.cell? ⟨w.heap.size+1+1+1+1,0,none⟩=some (.slice (some ⟨R,o,none⟩) 1 (cap+1))∧w'.cell? ⟨R,o,none⟩=some (.string v)∧w'.cell? ⟨f,2,none⟩=some (.pointer (some ⟨W.heap.size,0,none⟩))) (go_keep) (fail)
     all_goals go_wp2_with fail
     all_goals go_returns
     all_goals exact AI.good HI.out (((HST.out.other (t:=98) (((Ku.refl M _ W2).set_blk hMW HRG.out rfl).drew) (by decide))).more (Nat.le_succ c)) (HBL.out.trans (((Below.refl M W2).setCell (p:=⟨W.heap.size,0,none⟩) hMW _).drew)) (by simp) (by simp) True.intro
 · go_wp2_with fail
   go_fit ((HI.out.step (by repeat (with_reducible first | exact Below.refl _ _ | refine Below.drew ?_ | refine Below.alloc ?_ (by first | exact Nat.le_refl _ | (simp <;> omega)) _))).errorf _ _)
   rintro e w9 ⟨rfl,hE⟩
   have HE:=hide hE
   clear hE
   go_wp2_with fail
   go_returns
   exact AI.fail (HI.out.step (by repeat (with_reducible first | exact Below.refl _ _ | refine Below.drew ?_ | refine Below.alloc ?_ (by first | exact Nat.le_refl _ | (simp <;> omega)) _))) ⟨rfl,HE.out⟩ True.intro
end
end Go.Proofs.YtifkpibjeamfkaaGreatFmt
