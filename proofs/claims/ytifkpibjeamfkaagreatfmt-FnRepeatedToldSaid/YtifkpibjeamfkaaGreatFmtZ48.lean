/-
  (*File).add at retract lines.
  (*File).add at any line of the known kinds.
-/
import Derived.Test.YtifkpibjeamfkaaGreatFmtZ47
import Derived.Test.YtifkpibjeamfkaaGreatFmtZ31
import Derived.Test.YtifkpibjeamfkaaGreatFmtZ45
set_option linter.unusedVariables false
set_option linter.unusedSimpArgs false
set_option maxRecDepth 100000
namespace Go.Proofs.YtifkpibjeamfkaaGreatFmt
section
open Go.RowKit Go.Proofs
theorem Ku.of_kpA {M A:Nat} {w w':World} {v:Value} (h:Kp (fun k=>k=A) w w') (hA:Blk w A 26 #[v]) (hM:M≤A):Ku M (fun _ t=>t=26) w w' :=
 ⟨h.below (Nat.le_trans hM (Nat.le_of_lt hA.lt)) (fun k e=>by rw [e];exact hM),fun k cs t fz e hn=>(h.block k (Array.getElem?_eq_some_iff.1 e).1 (fun ek=>hn (by subst ek;rw [hA.out] at e;injection e with e;injection e with _ e;exact e.symm))).trans e⟩
theorem ComsAt.keptU {N M:Nat} {w w':World} {b:Nat} {t:TypeId} (h:ComsAt N w b t) (k:Ku M (fun _ t=>t=26) w w') (ht:t≠26):ComsAt N w' b t:=by
 obtain ⟨cs,bv,sv,c1,c2,hb,h0,h1,hc1,hc2⟩:=h
 exact ⟨cs,bv,sv,c1,c2,hb.keptU k ht,h0,h1,hc1.keptU k (fun _ _=>by decide),hc2.keptU k (fun _ _=>by decide)⟩
theorem ver_ne {v:List UInt8} (h:VerL v):v≠[91]∧v≠[40]:=by
 obtain ⟨m,n1,n2,pre,rfl,_⟩:=h
 exact ⟨by simp,by simp⟩
section
variable {M N:Nat} {w W W':World} {f E F L:Nat} {b:Option Nat} {nm verb:ByteArray} {av av':Value} {m g:Bool} {n c R:Nat} {cur:Array Value} {fa:Nat→Int}
theorem AddH.kuA (h:AddH M N W f E F L b nm m g n c R cur fa) (k:Ku M (fun _ t=>t=26) W W'):AddH M N W' f E F L b nm m g n c R cur fa:=by
 obtain ⟨ls,a1,a2,a3,lb,l3,l4,l5⟩:=h.lb
 exact ⟨h.st.other k (by decide),h.coms.keptU k (by decide),⟨ls,a1,a2,a3,lb.keptU k (by decide),l3,l4,l5⟩,fun X e=>(h.bk X e).keptU k (by decide),h.row.keptU k (by decide),h.pr.below k.below h.big,h.big,h.tab.below k.below h.lt,h.lt,h.fb,h.hc⟩
theorem AI.args (h:AI M N w W f E F L b nm verb av m g n c R cur fa) (k:Kp (fun k=>k=w.heap.size+1+1+1+1) W W') (hA:Blk W' (w.heap.size+1+1+1+1) 26 #[av']):AI M N w W' f E F L b nm verb av' m g n c R cur fa :=
 ⟨h.h.kuA (Ku.of_kpA k h.aw.b4 (by have:=h.lM;omega)),
  ⟨h.aw.b0.kept k (fun e=>by omega),h.aw.b1.kept k (fun e=>by omega),h.aw.b2.kept k (fun e=>by omega),h.aw.b3.kept k (fun e=>by omega),hA,h.aw.b5.kept k (fun e=>by omega),
   h.aw.below.trans (k.below h.aw.below.size (fun i e=>by rw [e];omega))⟩,h.lM⟩
end
set_option maxHeartbeats 8000000 in
theorem add_ret (M N:Nat) (w:World) (f E F L:Nat) (b:Option Nat) (nm:ByteArray) (m g:Bool) (n c R:Nat) (cur:Array Value) (fa:Nat→Int) (h:AddH M N w f E F L b nm m g n c R cur fa) (o k cap:Nat) (hiv:∀ A W,AddH M N W f E F L b nm m g n c R cur fa→Blk W A 26 #[.slice (some ⟨R,o,none⟩) k (cap+k)]→Calls Tryz.prog 63 #[.string ⟨#[114,101,116,114,97,99,116]⟩,.string ⟨#[]⟩,.pointer (some ⟨A,0,none⟩),dfR] W (IvR W A)) :
   Calls Tryz.prog 52 #[.pointer (some ⟨f,0,none⟩),.pointer (some ⟨E,0,none⟩),.pointer (b.map fun X=>⟨X,0,none⟩),.pointer (some ⟨L,0,none⟩),.string ⟨#[114,101,116,114,97,99,116]⟩,.slice (some ⟨R,o,none⟩) k (cap+k),.nilFunc,.bool true] w
     (AdR M w f E F nm m g n c (NoX)):=by
 have hmf:∀ (fn:Fn) (first cap:Array Value) (w:World),(Instr.makeFunc fn first cap).run Tryz.prog w=.ok (.func fn first cap) w:=fun _ _ _ _=>rfl
 obtain ⟨i1,hi1,hy1⟩:=Option.map_eq_some_iff.1 Tryz.infRetract
 simp only [Prod.mk.injEq] at hy1
 obtain ⟨hy0,hy1,hy2⟩:=hy1
 have hI:=AI.enter (verb:=⟨#[114,101,116,114,97,99,116]⟩) (av:=.slice (some ⟨R,o,none⟩) k (cap+k)) h
 clear h
 go_enter Tryz.func52,Tryz.ntmps52
 go_upto_region 11 with fail
 change Code.wp _ _ _ _ (addVars w f E L ⟨#[114,101,116,114,97,99,116]⟩ (.slice (some ⟨R,o,none⟩) k (cap+k)) 156 (clV w.heap.size))
 generalize addVars w f E L ⟨#[114,101,116,114,97,99,116]⟩ (.slice (some ⟨R,o,none⟩) k (cap+k)) 156 (clV w.heap.size)=W at *
 have q0:W.cell? ⟨w.heap.size,0,none⟩=some (.pointer (some ⟨f,0,none⟩)):=hI.aw.b0.cell 0 rfl
 have q2:W.cell? ⟨w.heap.size+1+1,0,none⟩=some (.pointer (some ⟨L,0,none⟩)):=hI.aw.b2.cell 0 rfl
 have q3:W.cell? ⟨w.heap.size+1+1+1,0,none⟩=some (.string ⟨#[114,101,116,114,97,99,116]⟩):=hI.aw.b3.cell 0 rfl
 have q4:W.cell? ⟨w.heap.size+1+1+1+1,0,none⟩=some (.slice (some ⟨R,o,none⟩) k (cap+k)):=hI.aw.b4.cell 0 rfl
 have HIV:=hide hiv
 clear hiv
 have HI:=hide hI
 clear hI
 go_wp2_with fail
 go_fit (directive_any N L b W fa HI.out.h.coms HI.out.h.bk HI.out.h.tab HI.out.h.ltW)
 rintro e w1 ⟨⟨s,rfl,hs⟩,hb1⟩
 have hI1:=HI.out.step hb1
 have p0:w1.cell? ⟨w.heap.size,0,none⟩=some (.pointer (some ⟨f,0,none⟩)):=hI1.aw.b0.cell 0 rfl
 have p2:w1.cell? ⟨w.heap.size+1+1,0,none⟩=some (.pointer (some ⟨L,0,none⟩)):=hI1.aw.b2.cell 0 rfl
 have p3:w1.cell? ⟨w.heap.size+1+1+1,0,none⟩=some (.string ⟨#[114,101,116,114,97,99,116]⟩):=hI1.aw.b3.cell 0 rfl
 have p4:w1.cell? ⟨w.heap.size+1+1+1+1,0,none⟩=some (.slice (some ⟨R,o,none⟩) k (cap+k)):=hI1.aw.b4.cell 0 rfl
 have HI1:=hide hI1
 clear hI1 hb1 HI hs q0 q2 q3 q4
 go_wp2_with fail
 go_fit (HIV.out _ w1 HI1.out.h HI1.out.aw.b4)
 rintro e w2 ⟨⟨x,y,rfl⟩,hkp,a,cap',hA2⟩
 have hI2:=HI1.out.args hkp hA2
 have r0:w2.cell? ⟨w.heap.size,0,none⟩=some (.pointer (some ⟨f,0,none⟩)):=hI2.aw.b0.cell 0 rfl
 have r2:w2.cell? ⟨w.heap.size+1+1,0,none⟩=some (.pointer (some ⟨L,0,none⟩)):=hI2.aw.b2.cell 0 rfl
 have r3:w2.cell? ⟨w.heap.size+1+1+1,0,none⟩=some (.string ⟨#[114,101,116,114,97,99,116]⟩):=hI2.aw.b3.cell 0 rfl
 have r4:w2.cell? ⟨w.heap.size+1+1+1+1,0,none⟩=some (.slice a 0 cap'):=hI2.aw.b4.cell 0 rfl
 have rl:=hI2.aw.b4.lt
 have y2:w.heap.size+1+1 < w2.heap.size:=by omega
 have y3:w.heap.size+1+1 < w2.heap.size+1:=by omega
 have y4:w.heap.size+1+1≠w2.heap.size:=by omega
 have y5:w2.heap.size≠w.heap.size+1+1:=by omega
 have z2:w.heap.size+1+1+1+1 < w2.heap.size+1:=by omega
 have z4:w.heap.size+1+1+1+1≠w2.heap.size:=by omega
 have z5:w2.heap.size≠w.heap.size+1+1+1+1:=by omega
 have HI2:=hide hI2
 clear hI2 hkp hA2 HI1 HIV p0 p2 p3 p4
 go_upto_region 89 with fail
 have HI3:=hide (HI2.out.step (by repeat (with_reducible first | exact Below.refl _ _ | refine Below.drew ?_ | refine Below.alloc ?_ (by first | exact Nat.le_refl _ | (simp <;> omega)) _)) (W':=(w2.alloc (Obj.cells #[.string x,.string y] 110)).alloc (Obj.cells #[.string x,.string y,.string s,.pointer (some ⟨L,0,none⟩)] 112)))
 clear r0 r2 r3 r4 y2 y3 y4 y5 z2 z4 z5
 generalize (w2.alloc (Obj.cells #[.string x,.string y] 110)).alloc (Obj.cells #[.string x,.string y,.string s,.pointer (some ⟨L,0,none⟩)] 112)=w3 at HI3 ⊢
 have p0:w3.cell? ⟨w.heap.size,0,none⟩=some (.pointer (some ⟨f,0,none⟩)):=HI3.out.aw.b0.cell 0 rfl
 have p2:w3.cell? ⟨w.heap.size+1+1,0,none⟩=some (.pointer (some ⟨L,0,none⟩)):=HI3.out.aw.b2.cell 0 rfl
 obtain ⟨cs,hfb,hfc⟩:=HI3.out.h.st.fb
 obtain ⟨sv,kk,xs,hs0,hs1,hs2⟩:=hfc.rows 7 (by decide) (by decide)
 obtain ⟨sa,sc,rfl⟩:=owns_any hs1
 have p4:w3.cell? ⟨f,7,none⟩=some (.slice sa kk sc):=hfb.cell 7 hs0
 have pf:w3.frozen? ⟨f,7,none⟩=false:=hfb.free 7
 have hfl:=hfb.lt
 have hMW:=HI3.out.h.st.lM
 have hcc:=HI3.out.h.hc
 have hm1:kk+1≤maxLen:=by unfold maxLen;omega
 have hm2:(kk+1) * 8≤140737488355328:=by omega
 have nf0:w.heap.size≠f:=HI3.out.aw.b0.ne hfb (by decide)
 have nf2:w.heap.size+1+1≠f:=HI3.out.aw.b2.ne hfb (by decide)
 have nf0':=nf0.symm
 have nf2':=nf2.symm
 have nfW:f≠w3.heap.size:=by omega
 have HFB:=hide hfb
 have HS0:=hide hs0
 have HRW:=hide (show w3.ownsRow M 108 1 (.slice sa kk sc) kk xs from hs1)
 have HB2:=hide HI3.out.aw.b2
 have HB0:=hide HI3.out.aw.b0
 clear hfb hfc hs0 hs1
 change Code.wp _ (Code.region _ #[_,_,_,_,id _,_,_,_,_,_,_] _) _ _ _
 go_region_held3 (fun w'=>w'.cell? ⟨w.heap.size,0,none⟩=some (.pointer (some ⟨f,0,none⟩))∧w'.cell? ⟨w.heap.size+1+1,0,none⟩=some (.pointer (some ⟨L,0,none⟩))) (go_keep)
   (first
     | (have _t:=HRW;refine step_append_lies _ (by rfl) _ _ _ (by rfl) M 108 i1 _ 1 8 Tryz.undsRetract hi1 hy0 hy1 hy2 rfl (by omega) (.slice sa kk sc) kk xs (by rfl) (by repeat (first | exact HRW.out | apply World.ownsRow.alloc | apply World.ownsRow.drew)) ⟨w3.heap.size,0,none⟩ 1 1 [.pointer (some ⟨w2.heap.size+1,0,none⟩)] (by rfl) (by rfl) (news_one _ _ _) (by simp [Value.oneCell']) (by omega) hm1 hm2 (by first | omega | (simp;omega)) (w3.heap.size+1) (by simp) ?_;intro ga gc w7 hown7 hgrow7 hat7 hlt7;have k7:Ku M (fun _ u=>u=108) w3 w7:=((((Ku.refl M (fun _ u=>u=108) w3).drew.alloc (by omega) _))).trans (Ku.of_append ((HRW.out.drew.alloc _)) hgrow7 (by first | omega | (simp;omega)) (fun _ _=>rfl));have x0:w7.cell? ⟨w.heap.size,0,none⟩=some (.pointer (some ⟨f,0,none⟩)):=(HI3.out.aw.b0.keptU k7 (by decide)).cell 0 rfl;have x2:w7.cell? ⟨w.heap.size+1+1,0,none⟩=some (.pointer (some ⟨L,0,none⟩)):=(HI3.out.aw.b2.keptU k7 (by decide)).cell 0 rfl;have hfb7:=HFB.out.keptU k7 (by decide);have x4:w7.cell? ⟨f,7,none⟩=some (.slice sa kk sc):=hfb7.cell 7 HS0.out;have xf:w7.frozen? ⟨f,7,none⟩=false:=hfb7.free 7;have HST:=hide (HI3.out.h.st.app (v:=.slice (some ⟨ga,0,none⟩) (kk+1) gc) 7 (by decide) (by decide) k7 hown7 (by omega));have HK7:=hide k7.below;clear hown7 hgrow7 hat7 hlt7 hfb7 k7))
 all_goals go_wp2_with fail
 all_goals go_returns
 all_goals exact AI.good HI3.out HST.out (HK7.out.setCell HI3.out.h.st.lf _) id id True.intro
theorem add_ret1 (M N:Nat) (w:World) (f E F L:Nat) (b:Option Nat) (nm:ByteArray) (m g:Bool) (n c R:Nat) (cur:Array Value) (fa:Nat→Int) (h:AddH M N w f E F L b nm m g n c R cur fa) (o cap:Nat) (v:List UInt8) (hx:cur[o]?=some (.string (mkS v))) (hv:VerL v) :
   Calls Tryz.prog 52 #[.pointer (some ⟨f,0,none⟩),.pointer (some ⟨E,0,none⟩),.pointer (b.map fun X=>⟨X,0,none⟩),.pointer (some ⟨L,0,none⟩),.string ⟨#[114,101,116,114,97,99,116]⟩,.slice (some ⟨R,o,none⟩) 1 (cap+1),.nilFunc,.bool true] w
     (AdR M w f E F nm m g n c (NoX)) :=
 add_ret M N w f E F L b nm m g n c R cur fa h o 1 cap (fun A W hW hA=>interval_1 A R o cap cur _ v W hA hW.row hx hv.nice.plain (ver_ne hv).1 (ver_ne hv).2 hW.pr hW.bigW)
theorem add_ret2 (M N:Nat) (w:World) (f E F L:Nat) (b:Option Nat) (nm:ByteArray) (m g:Bool) (n c R:Nat) (cur:Array Value) (fa:Nat→Int) (h:AddH M N w f E F L b nm m g n c R cur fa) (o cap:Nat) (v m2:List UInt8) (h0:cur[o]?=some (.string (mkS [91]))) (h1:cur[o+1]?=some (.string (mkS v))) (h2:cur[o+2]?=some (.string (mkS [44]))) (h3:cur[o+3]?=some (.string (mkS m2))) (h4:cur[o+4]?=some (.string (mkS [93]))) (hv:VerL v) (hm:VerL m2) :
   Calls Tryz.prog 52 #[.pointer (some ⟨f,0,none⟩),.pointer (some ⟨E,0,none⟩),.pointer (b.map fun X=>⟨X,0,none⟩),.pointer (some ⟨L,0,none⟩),.string ⟨#[114,101,116,114,97,99,116]⟩,.slice (some ⟨R,o,none⟩) 5 (cap+5),.nilFunc,.bool true] w
     (AdR M w f E F nm m g n c (NoX)) :=
 add_ret M N w f E F L b nm m g n c R cur fa h o 5 cap (fun A W hW hA=>interval_2 A R o cap cur _ v m2 W hA hW.row h0 h1 h2 h3 h4 hv.nice.plain hm.nice.plain hW.pr hW.bigW)
end
section
open Go.RowKit Go.Proofs
theorem PathF.k {p:ByteArray} (h:PathF p):∃ k,p.size=k+1∧(97≤bt p k∧bt p k≤122)∧Lib.hasPrefix p.data.toList gopkg.data.toList=false:=by
 obtain ⟨k,hk,hl⟩:=h.last
 exact ⟨k,hk,by simpa [letB] using hl,h.noPre⟩
theorem NiceL.size {v:List UInt8} (h:NiceL v):(mkS v).size≤1000000:=by rw [mkS_len];have:=h.len;omega
theorem wrd_pos {u:List UInt8} (h:Wrd u):0 < u.length:=by
 rcases h with h | h | h | h | h | h | h
 · exact h.pos
 all_goals (subst h;simp)
theorem add_line (M N:Nat) (w:World) (f E F L:Nat) (b:Option Nat) (nm:ByteArray) (m g:Bool) (n c R:Nat) (cur:Array Value) (fa:Nat→Int) (h:AddH M N w f E F L b nm m g n c R cur fa)
   (v:List UInt8) (args:List (List UInt8)) (hc:LineC v args) (o k cap:Nat) (a:Option Addr) (hk:k=args.length) (ha:args≠[]→a=some ⟨R,o,none⟩) (hcur:∀ (i:Nat) (u:List UInt8),args[i]?=some u→cur[o+i]?=some (.string (mkS u))) (hcap:k≤cap) :
   Calls Tryz.prog 52 #[.pointer (some ⟨f,0,none⟩),.pointer (some ⟨E,0,none⟩),.pointer (b.map fun X=>⟨X,0,none⟩),.pointer (some ⟨L,0,none⟩),.string (mkS v),.slice a k cap,.nilFunc,.bool true] w
     (AdR M w f E F nm m g n c (AdX v args m g n)):=by
 obtain ⟨d,rfl⟩:∃ d,cap=d+k:=⟨cap - k,by omega⟩
 have rep:∀ {l:List (List UInt8)} (W:World),AddH M N W f E F L b nm m g n c R cur fa→∃ a1 a2 a3:Int,Blk W R 9 cur∧W.cell? ⟨L,3,none⟩=some (.int .i64 a1)∧W.cell? ⟨L,4,none⟩=some (.int .i64 a2)∧W.cell? ⟨L,5,none⟩=some (.int .i64 a3)∧PrTab W∧0 < W.heap.size:=by
   intro l W hW
   obtain ⟨ls,a1,a2,a3,lb,l3,l4,l5⟩:=hW.lb
   exact ⟨a1,a2,a3,hW.row,lb.cell 3 l3,lb.cell 4 l4,lb.cell 5 l5,hW.pr,hW.bigW⟩
 cases hc with
 | module p hp =>
   obtain rfl:k=1:=hk
   rw [ha (by simp)]
   exact (add_mod M N w f E F L b nm m g n c R cur fa h o d (mkS p) (hcur 0 p rfl) hp.nice.plain).mono (fun e w' h=>h.mono (fun _ _ _ hX=>⟨fun _=>hX,fun e=>absurd e (by decide),fun e=>absurd e.1 (by decide)⟩))
 | go v hv =>
   obtain rfl:k=1:=hk
   rw [ha (by simp)]
   exact (add_go M N w f E F L b nm m g n c R cur fa h o d (mkS v) (hcur 0 v rfl) hv.size).mono (fun e w' h=>h.mono (fun _ _ _ hX=>⟨fun e=>absurd e (by decide),fun _=>hX,fun e=>absurd e.1 (by decide)⟩))
 | chain t ht =>
   obtain rfl:k=1:=hk
   rw [ha (by simp)]
   exact (add_tc M N w f E F L b nm m g n c R cur fa h o d (mkS t) (hcur 0 t rfl) ht.size).mono (fun e w' h=>h.mono (fun _ _ _ hX=>⟨fun e=>absurd e (by decide),fun e=>absurd e (by decide),fun e=>absurd e.1 (by decide)⟩))
 | req p v hp hv =>
   obtain rfl:k=2:=hk
   rw [ha (by simp)]
   obtain ⟨j,hj,hl,hf⟩:=hp.k
   exact (add_req M N w f E F L b nm m g n c R cur fa h o d j (mkS p) v (hcur 0 p rfl) (hcur 1 v rfl) hp.nice.plain hv.nice.plain hv hj hl hf).mono (fun e w' h=>h.mono (fun _ _ _ hX=>⟨fun e=>absurd e (by decide),fun e=>absurd e (by decide),fun e=>absurd rfl e.2⟩))
 | reqN a' hn =>
   exact (add_reqN M N w f E F L b nm m g n c R cur fa h a k (d+k) (by rw [hk];exact hn)).mono (fun e w' h=>h.mono (fun _ _ _ hX=>⟨fun e=>absurd e (by decide),fun e=>absurd e (by decide),fun _=>hX⟩))
 | reqV x y hx hy hv =>
   obtain rfl:k=2:=hk
   rw [ha (by simp)]
   exact (add_reqV M N w f E F L b nm m g n c R cur fa h o d (mkS x) (mkS y) (hcur 0 x rfl) (hcur 1 y rfl) hx.plain hy.plain (sb_of (wrd_pos hy) hv)).mono (fun e w' h=>h.mono (fun _ _ _ hX=>⟨fun e=>absurd e (by decide),fun e=>absurd e (by decide),fun _=>hX⟩))
 | exc p v hp hv =>
   obtain rfl:k=2:=hk
   rw [ha (by simp)]
   obtain ⟨j,hj,hl,hf⟩:=hp.k
   exact (add_exc M N w f E F L b nm m g n c R cur fa h o d j (mkS p) v (hcur 0 p rfl) (hcur 1 v rfl) hp.nice.plain hv.nice.plain hv hj hl hf).mono (fun e w' h=>h.mono (fun _ _ _ hX=>⟨fun e=>absurd e (by decide),fun e=>absurd e (by decide),fun e=>absurd e.1 (by decide)⟩))
 | rep1 p n' hp hn =>
   obtain rfl:k=3:=hk
   rw [ha (by simp)]
   obtain ⟨j,hj,hl,hf⟩:=hp.k
   exact (add_rep M N w f E F L b nm m g n c R cur fa h o 3 d (fun W hW=>by
     obtain ⟨a1,a2,a3,hR,l3,l4,l5,hpr,hP⟩:=rep (l:=[]) W hW
     exact replace_1 R o d L cur nm _ (mkS p) (mkS n') j a1 a2 a3 W hR (hcur 0 p rfl) (hcur 1 arW rfl) (hcur 2 n' rfl) hp.nice.plain hn.plain hj hl hf l3 l4 l5 hpr hP)).mono (fun e w' h=>h.mono (fun _ _ _ hX=>⟨fun e=>absurd e (by decide),fun e=>absurd e (by decide),fun e=>absurd e.1 (by decide)⟩))
 | rep2 p n' m' hp hn hm =>
   obtain rfl:k=4:=hk
   rw [ha (by simp)]
   obtain ⟨j,hj,hl,hf⟩:=hp.k
   exact (add_rep M N w f E F L b nm m g n c R cur fa h o 4 d (fun W hW=>by
     obtain ⟨a1,a2,a3,hR,l3,l4,l5,hpr,hP⟩:=rep (l:=[]) W hW
     exact replace_2 R o d L cur nm _ (mkS p) (mkS n') m' j a1 a2 a3 W hR (hcur 0 p rfl) (hcur 1 arW rfl) (hcur 2 n' rfl) (hcur 3 m' rfl) hm hm.nice.plain hp.nice.plain hn.plain hj hl hf l3 l4 l5 hpr hP)).mono (fun e w' h=>h.mono (fun _ _ _ hX=>⟨fun e=>absurd e (by decide),fun e=>absurd e (by decide),fun e=>absurd e.1 (by decide)⟩))
 | rep3 p v n' hp hv hn =>
   obtain rfl:k=4:=hk
   rw [ha (by simp)]
   obtain ⟨j,hj,hl,hf⟩:=hp.k
   exact (add_rep M N w f E F L b nm m g n c R cur fa h o 4 d (fun W hW=>by
     obtain ⟨a1,a2,a3,hR,l3,l4,l5,hpr,hP⟩:=rep (l:=[]) W hW
     exact replace_3 R o d L cur nm _ (mkS p) (mkS n') v j a1 a2 a3 W hR (hcur 0 p rfl) (hcur 2 arW rfl) (hcur 3 n' rfl) (hcur 1 v rfl) hv hv.nice.plain hp.nice.plain hn.plain hj hl hf l3 l4 l5 hpr hP)).mono (fun e w' h=>h.mono (fun _ _ _ hX=>⟨fun e=>absurd e (by decide),fun e=>absurd e (by decide),fun e=>absurd e.1 (by decide)⟩))
 | rep4 p v n' m' hp hv hn hm =>
   obtain rfl:k=5:=hk
   rw [ha (by simp)]
   obtain ⟨j,hj,hl,hf⟩:=hp.k
   exact (add_rep M N w f E F L b nm m g n c R cur fa h o 5 d (fun W hW=>by
     obtain ⟨a1,a2,a3,hR,l3,l4,l5,hpr,hP⟩:=rep (l:=[]) W hW
     exact replace_4 R o d L cur nm _ (mkS p) (mkS n') v m' j a1 a2 a3 W hR (hcur 0 p rfl) (hcur 2 arW rfl) (hcur 3 n' rfl) (hcur 1 v rfl) hv hv.nice.plain (hcur 4 m' rfl) hm hm.nice.plain hp.nice.plain hn.plain hj hl hf l3 l4 l5 hpr hP)).mono (fun e w' h=>h.mono (fun _ _ _ hX=>⟨fun e=>absurd e (by decide),fun e=>absurd e (by decide),fun e=>absurd e.1 (by decide)⟩))
 | ret1 v hv =>
   obtain rfl:k=1:=hk
   rw [ha (by simp)]
   exact (add_ret1 M N w f E F L b nm m g n c R cur fa h o d v (hcur 0 v rfl) hv).mono (fun e w' h=>h.mono (fun _ _ _ hX=>⟨fun e=>absurd e (by decide),fun e=>absurd e (by decide),fun e=>absurd e.1 (by decide)⟩))
 | ret2 v m' hv hm =>
   obtain rfl:k=5:=hk
   rw [ha (by simp)]
   exact (add_ret2 M N w f E F L b nm m g n c R cur fa h o d v m' (hcur 0 [91] rfl) (hcur 1 v rfl) (hcur 2 [44] rfl) (hcur 3 m' rfl) (hcur 4 [93] rfl) hv hm).mono (fun e w' h=>h.mono (fun _ _ _ hX=>⟨fun e=>absurd e (by decide),fun e=>absurd e (by decide),fun e=>absurd e.1 (by decide)⟩))
 | tool p hp =>
   obtain rfl:k=1:=hk
   rw [ha (by simp)]
   exact (add_tool M N w f E F L b nm m g n c R cur fa h o d (mkS p) (hcur 0 p rfl) hp.plain).mono (fun e w' h=>h.mono (fun _ _ _ hX=>⟨fun e=>absurd e (by decide),fun e=>absurd e (by decide),fun e=>absurd e.1 (by decide)⟩))
 | ign p hp =>
   obtain rfl:k=1:=hk
   rw [ha (by simp)]
   exact (add_ign M N w f E F L b nm m g n c R cur fa h o d (mkS p) (hcur 0 p rfl) hp.plain).mono (fun e w' h=>h.mono (fun _ _ _ hX=>⟨fun e=>absurd e (by decide),fun e=>absurd e (by decide),fun e=>absurd e.1 (by decide)⟩))
end
end Go.Proofs.YtifkpibjeamfkaaGreatFmt
