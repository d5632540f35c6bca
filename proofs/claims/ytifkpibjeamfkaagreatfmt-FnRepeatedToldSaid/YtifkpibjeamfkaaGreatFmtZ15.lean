/-
  (*File).add at a require or exclude line whose version does not begin with v.
  (*File).add at a module line.
  parseToFile: its door; one line of module; a module line and a line that is refused.
  contentOf at a file of a module alone; modfile.Parse; impl.Parse at the documents of this claim.
  reads; the law on versions that do not begin with v.
-/
import Derived.Test.YtifkpibjeamfkaaGreatFmtZ10
import Derived.Laws.EntriesVeiled
import Derived.Deep.DeepFit
import Derived.Test.YtifkpibjeamfkaaGreatFmtZ14
import Derived.Test.YtifkpibjeamfkaaGreatFmtZ03
import Derived.Defers
import Derived.Lib.ConvBytes
set_option linter.unusedVariables false
set_option linter.unusedSimpArgs false
set_option maxRecDepth 100000
namespace Go.Proofs.YtifkpibjeamfkaaGreatFmt
section
open Go.RowKit Go.Proofs
def addVars (w:World) (f E L:Nat) (verb:ByteArray) (av:Value) (t6:TypeId) (fv:Value):World :=
 (((((w.alloc (Obj.cells #[.pointer (some ⟨f,0,none⟩)] 64)).alloc (Obj.cells #[.pointer (some ⟨E,0,none⟩)] 123)).alloc (Obj.cells #[.pointer (some ⟨L,0,none⟩)] 92)).alloc (Obj.cells #[.string verb] 9)).alloc (Obj.cells #[av] 26)).alloc (Obj.cells #[fv] t6)
structure AddW (w W:World) (f E L:Nat) (verb:ByteArray) (av:Value) (t6:TypeId) (fv:Value):Prop where
 b0:Blk W w.heap.size 64 #[.pointer (some ⟨f,0,none⟩)]
 b1:Blk W (w.heap.size+1) 123 #[.pointer (some ⟨E,0,none⟩)]
 b2:Blk W (w.heap.size+1+1) 92 #[.pointer (some ⟨L,0,none⟩)]
 b3:Blk W (w.heap.size+1+1+1) 9 #[.string verb]
 b4:Blk W (w.heap.size+1+1+1+1) 26 #[av]
 b5:Blk W (w.heap.size+1+1+1+1+1) t6 #[fv]
 below:Below w.heap.size w W
theorem Blk.new' (w:World) (t:TypeId) (cs:Array Value) (n:Nat) (h:w.heap.size=n):Blk (w.alloc (.cells cs t)) n t cs:=h ▸ Blk.new w t cs
theorem addW (w:World) (f E L:Nat) (verb:ByteArray) (av:Value) (t6:TypeId) (fv:Value):AddW w (addVars w f E L verb av t6 fv) f E L verb av t6 fv:=by
 unfold addVars
 refine ⟨?_,?_,?_,?_,?_,?_,?_⟩
 · exact (((((Blk.new _ _ _).alloc _).alloc _).alloc _).alloc _).alloc _
 · exact ((((Blk.new' _ _ _ _ (by simp)).alloc _).alloc _).alloc _).alloc _
 · exact (((Blk.new' _ _ _ _ (by simp)).alloc _).alloc _).alloc _
 · exact ((Blk.new' _ _ _ _ (by simp)).alloc _).alloc _
 · exact (Blk.new' _ _ _ _ (by simp)).alloc _
 · exact Blk.new' _ _ _ _ (by simp)
 · exact ((((((Below.refl _ w).alloc (Nat.le_refl _) _).alloc (by simp) _).alloc (by simp;omega) _).alloc (by simp;omega) _).alloc (by simp;omega) _).alloc (by simp;omega) _
theorem AddW.below' {w W W':World} {f E L:Nat} {verb:ByteArray} {av:Value} {t6:TypeId} {fv:Value} (h:AddW w W f E L verb av t6 fv) (k:Below W.heap.size W W'):AddW w W' f E L verb av t6 fv:=by
 have kp:=Kp.of_below (X:=fun _=>False) k
 exact ⟨h.b0.kept kp (fun h=>h),h.b1.kept kp (fun h=>h),h.b2.kept kp (fun h=>h),h.b3.kept kp (fun h=>h),h.b4.kept kp (fun h=>h),h.b5.kept kp (fun h=>h),h.below.trans (k.mono h.below.size)⟩
end
section
open Go.RowKit Go.Proofs
def Reads1 (R i:Nat) (cur:Array Value) (s:ByteArray):Prop:=∀ W:World,Blk W R 9 cur→PrTab W→0 < W.heap.size →
 Calls Tryz.prog 71 #[.pointer (some ⟨R,i,none⟩)] W fun e w'=>e=.returned (.tuple #[.string s,.nilIface])∧Below W.heap.size W w'
theorem Reads1.plain {R i:Nat} {cur:Array Value} {s:ByteArray} (hp:Plain s) (hi:cur[i]?=some (.string s)):Reads1 R i cur s :=
 fun W hR hpr hP=>parseString_plain R i cur s W hR hi hp.chars hp.first hp.len hp.mq hpr hP
set_option maxHeartbeats 4000000 in
theorem add_module (R cap:Nat) (cur:Array Value) (s:ByteArray) (w:World) (f E L:Nat) (fcs Lcs:Array Value)
   (hf:Blk w f 89 fcs) (hL:Blk w L 136 Lcs) (hR:Blk w R 9 cur) (hf0:fcs[0]?=some (.pointer none)) (hL0:Lcs[0]?=some (.slice none 0 0)) (hL1:Lcs[1]?=some (.slice none 0 0))
   (hps:Reads1 R 1 cur s) (hpr:PrTab w) (hP:0 < w.heap.size) :
   Calls Tryz.prog 52 #[.pointer (some ⟨f,0,none⟩),.pointer (some ⟨E,0,none⟩),.pointer none,.pointer (some ⟨L,0,none⟩),.string ⟨#[109,111,100,117,108,101]⟩,.slice (some ⟨R,1,none⟩) 1 cap,.nilFunc,.bool true] w
     fun e w'=>e=.returned (.tuple #[])∧Kp (fun k=>k=f) w w'∧∃ M,Blk w' f 89 (fcs.setIfInBounds 0 (.pointer (some ⟨M,0,none⟩)))∧w'.cell? ⟨M,0,none⟩=some (.string s)∧M < w'.heap.size:=by
 have hmf:∀ (fn:Fn) (first cap:Array Value) (w:World),(Instr.makeFunc fn first cap).run Tryz.prog w=.ok (.func fn first cap) w:=fun _ _ _ _=>rfl
 have HD:=hide (And.intro hf (And.intro hL hR))
 have HC:=hide (And.intro hf0 (And.intro hL0 hL1))
 have HP:=hide hpr
 have HS:=hide hps
 have c0:w.cell? ⟨f,0,none⟩=some (.pointer none):=hf.cell 0 hf0
 have hfl:=hf.lt
 have hLl:=hL.lt
 have m1:f < w.heap.size+1:=by omega
 have m2:f < w.heap.size+1+1:=by omega
 have m3:f < w.heap.size+1+1+1:=by omega
 have m4:f < w.heap.size+1+1+1+1:=by omega
 have m5:f < w.heap.size+1+1+1+1+1:=by omega
 clear hf hL hR hf0 hL0 hL1 hpr hps
 go_enter Tryz.func52,Tryz.ntmps52
 go_wp2_with fail
 have AW:=addW w f E L ⟨#[109,111,100,117,108,101]⟩ (.slice (some ⟨R,1,none⟩) 1 cap) 156 (.func (.func 65) #[] #[.pointer (some ⟨w.heap.size+1,0,none⟩),.pointer (some ⟨w.heap.size,0,none⟩),.pointer (some ⟨w.heap.size+1+1,0,none⟩)])
 change Calls _ _ _ (addVars w f E L ⟨#[109,111,100,117,108,101]⟩ (.slice (some ⟨R,1,none⟩) 1 cap) 156 (.func (.func 65) #[] #[.pointer (some ⟨w.heap.size+1,0,none⟩),.pointer (some ⟨w.heap.size,0,none⟩),.pointer (some ⟨w.heap.size+1+1,0,none⟩)])) _
 generalize addVars w f E L ⟨#[109,111,100,117,108,101]⟩ (.slice (some ⟨R,1,none⟩) 1 cap) 156 (.func (.func 65) #[] #[.pointer (some ⟨w.heap.size+1,0,none⟩),.pointer (some ⟨w.heap.size,0,none⟩),.pointer (some ⟨w.heap.size+1+1,0,none⟩)])=W at AW ⊢
 have hLW:=HD.out.2.1.kept (Kp.of_below (X:=fun _=>False) AW.below) (fun h=>h)
 go_fit (deprecation_none L W (hLW.cell 0 HC.out.2.1) (hLW.cell 1 HC.out.2.2))
 rintro e w1 ⟨rfl,hb1⟩
 have A1:=AW.below' hb1
 have HA1:=hide A1
 have hf1:=HD.out.1.kept (Kp.of_below (X:=fun _=>False) A1.below) (fun h=>h)
 have HF1:=hide hf1
 have d0:w1.cell? ⟨w.heap.size,0,none⟩=some (.pointer (some ⟨f,0,none⟩)):=A1.b0.cell 0 rfl
 have d2:w1.cell? ⟨w.heap.size+1+1,0,none⟩=some (.pointer (some ⟨L,0,none⟩)):=A1.b2.cell 0 rfl
 have d4:w1.cell? ⟨w.heap.size+1+1+1+1,0,none⟩=some (.slice (some ⟨R,1,none⟩) 1 cap):=A1.b4.cell 0 rfl
 have f0:w1.cell? ⟨f,0,none⟩=some (.pointer none):=hf1.cell 0 HC.out.1
 have ff:w1.frozen? ⟨f,0,none⟩=false:=hf1.free 0
 have g4:w.heap.size+1+1+1+1+1 < w1.heap.size:=A1.b5.lt
 have l0:w.heap.size < w1.heap.size:=by omega
 have l2:w.heap.size+1+1 < w1.heap.size:=by omega
 have l4:w.heap.size+1+1+1+1 < w1.heap.size:=by omega
 have lf:f < w1.heap.size:=hf1.lt
 have n0:w.heap.size≠f:=by omega
 have n2:w.heap.size+1+1≠f:=by omega
 have n4:w.heap.size+1+1+1+1≠f:=by omega
 clear A1 hf1 hb1 AW hLW
 go_wp2_with fail
 have hW2:Hid (Blk ((w1.setCell ⟨f,0,none⟩ (.pointer (some ⟨w1.heap.size,0,none⟩))).alloc (Obj.cells #[Value.string ⟨#[]⟩,Value.string ⟨#[]⟩,Value.string ⟨#[]⟩,Value.pointer (some ⟨L,0,none⟩)] 94)) w1.heap.size 94 #[Value.string ⟨#[]⟩,Value.string ⟨#[]⟩,Value.string ⟨#[]⟩,Value.pointer (some ⟨L,0,none⟩)] ∧
     Blk ((w1.setCell ⟨f,0,none⟩ (.pointer (some ⟨w1.heap.size,0,none⟩))).alloc (Obj.cells #[Value.string ⟨#[]⟩,Value.string ⟨#[]⟩,Value.string ⟨#[]⟩,Value.pointer (some ⟨L,0,none⟩)] 94)) f 89 (fcs.setIfInBounds 0 (.pointer (some ⟨w1.heap.size,0,none⟩))) ∧
     Blk ((w1.setCell ⟨f,0,none⟩ (.pointer (some ⟨w1.heap.size,0,none⟩))).alloc (Obj.cells #[Value.string ⟨#[]⟩,Value.string ⟨#[]⟩,Value.string ⟨#[]⟩,Value.pointer (some ⟨L,0,none⟩)] 94)) w.heap.size 64 #[.pointer (some ⟨f,0,none⟩)] ∧
     Kp (fun k=>k=f) w ((w1.setCell ⟨f,0,none⟩ (.pointer (some ⟨w1.heap.size,0,none⟩))).alloc (Obj.cells #[Value.string ⟨#[]⟩,Value.string ⟨#[]⟩,Value.string ⟨#[]⟩,Value.pointer (some ⟨L,0,none⟩)] 94))) :=
   hide ⟨Blk.new' _ _ _ _ (by simp [World.setCell]),(HF1.out.set 0 _).alloc _,(HA1.out.b0.set_other n0 _).alloc _,((Kp.of_below (X:=fun k=>k=f) HA1.out.below).set (fun _=>rfl)).alloc _⟩
 have hsz2:((w1.setCell ⟨f,0,none⟩ (.pointer (some ⟨w1.heap.size,0,none⟩))).alloc (Obj.cells #[Value.string ⟨#[]⟩,Value.string ⟨#[]⟩,Value.string ⟨#[]⟩,Value.pointer (some ⟨L,0,none⟩)] 94)).heap.size=w1.heap.size+1:=by simp [World.setCell]
 have HZ:=hide hsz2
 clear hsz2
 generalize (w1.setCell ⟨f,0,none⟩ (.pointer (some ⟨w1.heap.size,0,none⟩))).alloc (Obj.cells #[Value.string ⟨#[]⟩,Value.string ⟨#[]⟩,Value.string ⟨#[]⟩,Value.pointer (some ⟨L,0,none⟩)] 94)=W2 at hW2 HZ ⊢
 have hRf:R≠f:=HD.out.2.2.ne HD.out.1 (by decide)
 have hPf:¬ 0=f:=by
   intro e
   obtain ⟨v,hv,_⟩:=HP.out 0 (by omega)
   rw [show (⟨0,0,none⟩:Addr)=⟨f,0,none⟩ from by rw [← e],c0] at hv
   cases hv
 go_fit (HS.out W2 (HD.out.2.2.kept hW2.out.2.2.2 hRf) (HP.out.kept hW2.out.2.2.2 hPf) (Nat.lt_of_lt_of_le hP hW2.out.2.2.2.size))
 rintro e w3 ⟨rfl,hb3⟩
 have bM:=hW2.out.1.kept (Kp.of_below (X:=fun _=>False) hb3) (fun h=>h)
 have bF:=hW2.out.2.1.kept (Kp.of_below (X:=fun _=>False) hb3) (fun h=>h)
 have b0:=hW2.out.2.2.1.kept (Kp.of_below (X:=fun _=>False) hb3) (fun h=>h)
 have k3:=hide (hW2.out.2.2.2.trans (Kp.of_below hb3))
 have hfsz:0 < fcs.size:=by
   have h:=HC.out.1
   rcases Nat.eq_zero_or_pos fcs.size with h0 | h0
   · rw [Array.getElem?_eq_none (by omega)] at h;cases h
   · exact h0
 have e0:w3.cell? ⟨w.heap.size,0,none⟩=some (.pointer (some ⟨f,0,none⟩)):=b0.cell 0 rfl
 have ef:w3.cell? ⟨f,0,none⟩=some (.pointer (some ⟨w1.heap.size,0,none⟩)):=bF.cell 0 (by simp [hfsz])
 have fM:∀ j,w3.frozen? ⟨w1.heap.size,j,none⟩=false:=fun j=>bM.free j
 have eM0:w3.cell? ⟨w1.heap.size,0,none⟩=some (.string ⟨#[]⟩):=bM.cell 0 rfl
 have eM1:w3.cell? ⟨w1.heap.size,1,none⟩=some (.string ⟨#[]⟩):=bM.cell 1 rfl
 have BM:=hide bM
 have BF:=hide bF
 clear bM bF b0 hb3 d0 d2 d4 f0 ff
 go_wp2_with fail
 go_returns
 have nfM:f≠w1.heap.size:=by omega
 exact ⟨rfl,((k3.out).set (fun h=>absurd h (by omega))).set (fun h=>absurd h (by omega)),w1.heap.size,(BF.out.set_other nfM _).set_other nfM _,((BM.out.set 0 _).set 1 _).cell 0 rfl,((BM.out.set 0 _).set 1 _).lt⟩
end
section
open Go.RowKit Go.Proofs
theorem fixRetract_nil (f E:Nat) (w:World):Calls Tryz.prog 51 #[.pointer (some ⟨f,0,none⟩),.nilFunc,.pointer (some ⟨E,0,none⟩)] w fun e w'=>e=.returned (.tuple #[])∧Below w.heap.size w w':=by
 have hq:∀ (w:World),(binOp .eql 75 .nilFunc .nilFunc).run Tryz.prog w=.ok (.bool true) w:=fun w=>by kernel_rfl
 go_enter Tryz.func51,Tryz.ntmps51
 go_wp2_with fail
 go_returns
 exact ⟨rfl,((Below.refl _ w).alloc (Nat.le_refl _) _).alloc (by simp) _⟩
theorem ptf_door (vE vf vx vp ve f:Nat) (a:Option Addr) (n c:Nat) (w:World) (hE:w.cell? ⟨vE,0,none⟩=some (.slice a n c)) (hf:w.cell? ⟨vf,0,none⟩=some (.pointer (some ⟨f,0,none⟩))) (hx:w.cell? ⟨vx,0,none⟩=some .nilFunc) :
   CallsD Tryz.prog 50 #[.pointer (some ⟨vE,0,none⟩),.pointer (some ⟨vf,0,none⟩),.pointer (some ⟨vx,0,none⟩),.pointer (some ⟨vp,0,none⟩),.pointer (some ⟨ve,0,none⟩)] .returning w
     fun e u' w'=>u'=.returning∧e=.returned (.tuple #[])∧Below w.heap.size w w':=by
 have hwrap:IntKind.i64.wrap (n:Int)=IntKind.i64.wrap (n:Int):=rfl
 refine callsD_of_wp Tryz.func50 rfl ?_
 simp only [Tryz.ntmps50,List.size_toArray,List.length_cons,List.length_nil,Nat.reduceAdd,Nat.reduceSub,Array.replicate_succ,Array.replicate_zero,List.push_toArray,List.append_toArray,List.nil_append,List.cons_append]
 clear hwrap
 go_wp2_with fail
 go_fit (fixRetract_nil f vE w)
 rintro e w1 ⟨rfl,hb⟩
 have hE1:w1.cell? ⟨vE,0,none⟩=some (.slice a n c):=(hb.cell (p:=⟨vE,0,none⟩) (World.block_lt_of_cell? w _ hE)).trans hE
 have HB:=hide hb
 clear hb
 go_wp2_with fail
 go_returns
 exact ⟨rfl,HB.out⟩
theorem LineW.open {N:Nat} {w:World} {L n:Nat} {l:List (List UInt8)} (h:LineW N w L l) (hn:l.length=n+1):∃ R cap cur a1 a2 a3 b1 b2 b3,
   Blk w L 136 #[nilS,nilS,nilS,.int .i64 a1,.int .i64 a2,.int .i64 a3,.slice (some ⟨R,0,none⟩) (n+1) cap,.bool false,.int .i64 b1,.int .i64 b2,.int .i64 b3]∧Blk w R 9 cur∧N≤R∧n+1≤cap∧cap≤maxLen ∧
   ∀ i (hi:i < l.length),cur[i]?=some (.string (mkS l[i])):=by
 obtain ⟨tv,a1,a2,a3,b1,b2,b3,hb,ho⟩:=h
 rw [hn] at ho
 rcases ho.2 with ⟨_,h2⟩ | ⟨g,cap,cur,rfl,hg,hh,hc1,hc2,hc3,hc4⟩
 · omega
 · refine ⟨g,cap,cur,a1,a2,a3,b1,b2,b3,hb,⟨hh⟩,hg,hc1,hc2,fun i hi=>?_⟩
   have h1:=congrArg (fun l=>l[i]?) hc4
   simp only [List.getElem?_take,List.getElem?_map] at h1
   rw [if_pos (by omega),List.getElem?_eq_getElem hi] at h1
   simpa using h1
theorem FileAt.open {N:Nat} {w:World} {F n:Nat} {nm:ByteArray} {xs:List Value} (h:FileAt N w F nm xs) (hn:xs.length=n+1):∃ G cap cur,
   Blk w F 129 #[.string nm,nilS,nilS,nilS,.slice (some ⟨G,0,none⟩) (n+1) cap]∧Blk w G 131 cur∧N≤G∧∀ i (hi:i < xs.length),cur[i]?=some xs[i]:=by
 obtain ⟨v,hb,ho⟩:=h
 rw [hn] at ho
 rcases ho.2 with ⟨_,h2⟩ | ⟨g,cap,cur,rfl,hg,hh,hc1,hc2,hc3,hc4⟩
 · omega
 · refine ⟨g,cap,cur,hb,⟨hh⟩,hg,fun i hi=>?_⟩
   have h1:=congrArg (fun l=>l[i]?) hc4
   simp only [List.getElem?_take] at h1
   rw [if_pos (by omega),List.getElem?_eq_getElem hi] at h1
   simpa using h1
def modB:List UInt8:=[109,111,100,117,108,101]
def fileCells (M:Value) (F:Nat):Array Value:=#[M,.pointer none,.pointer none,nilS,nilS,nilS,nilS,nilS,nilS,nilS,.pointer (some ⟨F,0,none⟩)]
theorem TxtAt.below {w W:World} {D C:Nat} {T:List UInt8} (h:TxtAt w D C T) (hb:Below w.heap.size w W):TxtAt W D C T:=by
 obtain ⟨cs,fz,e⟩:=h.dat
 have hD:D < w.heap.size:=(Array.getElem?_eq_some_iff.1 e).1
 exact ⟨fun j hj=>(hb.cell (p:=⟨D,j,none⟩) hD).trans (h.cell j hj),h.ascii,h.hn,h.hC,h.hT,⟨cs,fz,(hb.block D hD).trans e⟩⟩
def safeB (c:Nat):Bool:=idB c && c != 47 && c != 34 && c != 96
theorem ch_mem (u:List UInt8) (i:Nat) (h:i < u.length):∃ c ∈ u,ch u i=c.toNat:=⟨u[i],List.getElem_mem h,by simp [ch,List.getD_eq_getElem?_getD,List.getElem?_eq_getElem h]⟩
theorem IdW.safe (u:List UInt8) (h0:0 < u.length) (h:∀ c ∈ u,safeB c.toNat=true):IdW u:=by
 have key:∀ i,i < u.length→idB (ch u i)=true∧ch u i≠47∧ch u i≠34∧ch u i≠96:=by
   intro i hi
   obtain ⟨c,hc,e⟩:=ch_mem u i hi
   have:=h c hc
   simp only [safeB,Bool.and_eq_true,bne_iff_ne,ne_eq] at this
   rw [e]
   exact ⟨this.1.1.1,this.1.1.2,this.1.2,this.2⟩
 exact ⟨h0,fun i hi=>⟨(key i hi).1,⟨fun h=>(key i hi).2.1 h.2.1,fun h=>(key i hi).2.1 h.2.1⟩⟩,(key 0 h0).2.2.1,(key 0 h0).2.2.2⟩
theorem wd_mod:Wd modB:=Or.inl (IdW.safe _ (by decide) (by decide))
set_option maxHeartbeats 4000000 in
theorem ptf_one (w:World) (D C:Nat) (nm:ByteArray) (u:List UInt8) (s:ByteArray) (h:TxtAt w D C (docTxt [[modB,u]])) (hu:Wd u) (hps:∀ (R:Nat) (cur:Array Value),cur[1]?=some (.string (mkS u))→Reads1 R 1 cur s)
   (hpr:PrTab w) (hP:0 < w.heap.size) :
   Calls Tryz.prog 46 #[.string nm,.slice (some ⟨D,0,none⟩) (docTxt [[modB,u]]).length C,.nilFunc,.bool true] w
     fun e w'=>∃ f F M,e=.returned (.tuple #[.pointer (some ⟨f,0,none⟩),.nilIface])∧Below w.heap.size w w'∧Blk w' f 89 (fileCells (.pointer (some ⟨M,0,none⟩)) F)∧w'.cell? ⟨M,0,none⟩=some (.string s):=by
 have hmf:∀ (fn:Fn) (first cap:Array Value) (w:World),(Instr.makeFunc fn first cap).run Tryz.prog w=.ok (.func fn first cap) w:=fun _ _ _ _=>rfl
 have H:=hide h
 have HP:=hide hpr
 have HS:=hide hps
 have HU:=hide hu
 clear h hpr hps hu
 go_enter_defers Tryz.func46,Tryz.ntmps46
 go_wp2_with fail
 have bx:=((Blk.new w 75 #[Value.nilFunc]).alloc (Obj.cells #[Value.pointer none] 64)).alloc (Obj.cells #[Value.nilIface] 66)
 have bp:=(Blk.new' (w.alloc (Obj.cells #[Value.nilFunc] 75)) 64 #[Value.pointer none] (w.heap.size+1) (by simp)).alloc (Obj.cells #[Value.nilIface] 66)
 have be:=Blk.new' ((w.alloc (Obj.cells #[Value.nilFunc] 75)).alloc (Obj.cells #[Value.pointer none] 64)) 66 #[Value.nilIface] (w.heap.size+1+1) (by simp)
 have hb0:Below w.heap.size w (((w.alloc (Obj.cells #[Value.nilFunc] 75)).alloc (Obj.cells #[Value.pointer none] 64)).alloc (Obj.cells #[Value.nilIface] 66)) :=
   (((Below.refl _ w).alloc (Nat.le_refl _) _).alloc (by simp) _).alloc (by simp;omega) _
 generalize ((w.alloc (Obj.cells #[Value.nilFunc] 75)).alloc (Obj.cells #[Value.pointer none] 64)).alloc (Obj.cells #[Value.nilIface] 66)=W at bx bp be hb0 ⊢
 have hprW:PrTab W:=HP.out.keptT (N:=w.heap.size) (S:=fun _=>True) ⟨hb0,fun k cs t fz e hn=>absurd True.intro hn⟩ hP
 go_fit (parse_doc W D C nm [[modB,u]] (H.out.below hb0) (by intro l hl x hx;simp at hl;subst hl;simp at hx;rcases hx with rfl | rfl;exact wd_mod;exact HU.out) (by simp) (by simp [lsOf]) (by simp) hprW (Nat.lt_of_lt_of_le hP hb0.size))
 rintro e w1 ⟨F,Ls,rfl,hb1,hF,hls⟩
 cases hls with
 | cons hl hnil =>
 cases hnil
 rename_i L
 obtain ⟨R,cap,cur,a1,a2,a3,b1,b2,b3,bL,bR,hNR,hc1,hc2,hcur⟩:=hl.open (n:=1) rfl
 obtain ⟨G,gcap,gcur,bF,bG,hNG,hgcur⟩:=hF.open (n:=0) rfl
 have hcm:cur[0]?=some (.string (mkS modB)):=hcur 0 (by simp)
 have hcu:cur[1]?=some (.string (mkS u)):=hcur 1 (by simp)
 have hg0:gcur[0]?=some (lineV L):=hgcur 0 (by simp)
 have kp1:=Kp.of_below (X:=fun _=>False) hb1
 have bx1:=bx.kept kp1 (fun h=>h)
 have bp1:=bp.kept kp1 (fun h=>h)
 have be1:=be.kept kp1 (fun h=>h)
 have se1:w1.setCell ⟨w.heap.size+1+1,0,none⟩ .nilIface=w1:=be1.set_id rfl
 have ee1:w1.cell? ⟨w.heap.size+1+1,0,none⟩=some .nilIface:=be1.cell 0 rfl
 have fe1:∀ j,w1.frozen? ⟨w.heap.size+1+1,j,none⟩=false:=fun j=>be1.free j
 have hb01:=hb0.trans (hb1.mono hb0.size)
 have hpr1:PrTab w1:=hprW.keptT (N:=W.heap.size) (S:=fun _=>True) ⟨hb1,fun k cs t fz e hn=>absurd True.intro hn⟩ (Nat.lt_of_lt_of_le hP hb0.size)
 have HB:=hide (And.intro bx1 (And.intro bp1 (And.intro be1 (And.intro bL (And.intro bR (And.intro bF bG))))))
 have HC:=hide (And.intro hcm (And.intro hcu hg0))
 have HB01:=hide hb01
 have HP1:=hide hpr1
 have cS:w1.cell? ⟨F,4,none⟩=some (.slice (some ⟨G,0,none⟩) 1 gcap):=bF.cell 4 rfl
 have lF:F < w1.heap.size:=bF.lt
 have lF1:F < w1.heap.size+1:=by omega
 have lF2:F < w1.heap.size+1+1:=by omega
 have lF3:F < w1.heap.size+1+1+1:=by omega
 clear hcur hgcur hF kp1 bx1 bp1 be1 hb01 hpr1 bL bR bF bG hcm hcu hg0 hb1 hb0 bx bp be hprW hl
 go_wp2_with fail
 have hW2:∀ Wx,Wx=((w1.alloc (Obj.cells (fileCells (.pointer none) F) 89)).alloc (Obj.cells #[Value.pointer (some ⟨w1.heap.size,0,none⟩)] 64)).alloc (Obj.cells #[Value.slice none 0 0] 121) →
     Blk Wx w1.heap.size 89 (fileCells (.pointer none) F)∧Blk Wx (w1.heap.size+1) 64 #[Value.pointer (some ⟨w1.heap.size,0,none⟩)]∧Blk Wx (w1.heap.size+1+1) 121 #[Value.slice none 0 0]∧Below w1.heap.size w1 Wx:=by
   rintro Wx rfl
   exact ⟨((Blk.new w1 _ _).alloc _).alloc _,(Blk.new' _ _ _ _ (by simp)).alloc _,Blk.new' _ _ _ _ (by simp),(((Below.refl _ w1).alloc (Nat.le_refl _) _).alloc (by simp) _).alloc (by simp;omega) _⟩
 have hW3:=hide (hW2 _ rfl)
 clear hW2
 unfold fileCells nilS at hW3
 generalize ((w1.alloc (Obj.cells #[Value.pointer none,Value.pointer none,Value.pointer none,Value.slice none 0 0,Value.slice none 0 0,Value.slice none 0 0,Value.slice none 0 0,Value.slice none 0 0,Value.slice none 0 0,Value.slice none 0 0,Value.pointer (some ⟨F,0,none⟩)] 89)).alloc (Obj.cells #[Value.pointer (some ⟨w1.heap.size,0,none⟩)] 64)).alloc (Obj.cells #[Value.slice none 0 0] 121)=W2 at hW3 ⊢
 have kp2:=Kp.of_below (X:=fun _=>False) hW3.out.2.2.2
 have hpr2:=HP1.out.keptT (N:=w1.heap.size) (S:=fun _=>True) ⟨hW3.out.2.2.2,fun k cs t fz e hn=>absurd True.intro hn⟩ (Nat.lt_of_lt_of_le hP HB01.out.size)
 have HP2:=hide hpr2
 have bL:=HB.out.2.2.2.1.kept kp2 (fun h=>h)
 have bR:=HB.out.2.2.2.2.1.kept kp2 (fun h=>h)
 have bG:=HB.out.2.2.2.2.2.2.kept kp2 (fun h=>h)
 have bx:=HB.out.1.kept kp2 (fun h=>h)
 have g0:W2.cell? ⟨G,0,none⟩=some (.iface 92 (.pointer (some ⟨L,0,none⟩))):=bG.cell 0 HC.out.2.2
 have l6:W2.cell? ⟨L,6,none⟩=some (.slice (some ⟨R,0,none⟩) 2 cap):=bL.cell 6 rfl
 have r0:W2.cell? ⟨R,0,none⟩=some (.string ⟨#[109,111,100,117,108,101]⟩):=bR.cell 0 HC.out.1
 have x0:W2.cell? ⟨w.heap.size,0,none⟩=some .nilFunc:=bx.cell 0 rfl
 have vf0:W2.cell? ⟨w1.heap.size+1,0,none⟩=some (.pointer (some ⟨w1.heap.size,0,none⟩)):=hW3.out.2.1.cell 0 rfl
 have hlt1:w.heap.size+1+1 < w1.heap.size:=HB.out.2.2.1.lt
 have hcapI:(1:Int) < (cap:Int):=by omega
 have hcapN:1 < cap:=by omega
 have hcap1:¬ cap=1:=by omega
 have BL:=hide bL
 have BR:=hide bR
 have BG:=hide bG
 have BX:=hide bx
 clear kp2 hpr2 bL bR bG bx
 refine wp_loop_rounds 2 ?_
 rw [rounds_succ]
 go_wp2_with fail
 have HM:=hide (add_module R (cap - 1) cur s W2.drew w1.heap.size (w1.heap.size+1+1) L _ _ hW3.out.1.drew BL.out.drew BR.out.drew rfl rfl rfl (HS.out R cur HC.out.2.1) HP2.out (Nat.lt_of_lt_of_le (Nat.lt_of_lt_of_le hP HB01.out.size) hW3.out.2.2.2.size))
 go_region_held3 (fun w'=>w'.cell? ⟨w1.heap.size+1,0,none⟩=some (.pointer (some ⟨w1.heap.size,0,none⟩))∧w'.cell? ⟨L,6,none⟩=some (.slice (some ⟨R,0,none⟩) 2 cap)∧w'.cell? ⟨R,0,none⟩=some (.string ⟨#[109,111,100,117,108,101]⟩)∧w'.cell? ⟨w.heap.size,0,none⟩=some .nilFunc) (go_keep)
   ((go_fit HM.out;rintro e w4 ⟨rfl,hk4,M,bf4,cM4,hM4⟩;have bff4:=hW3.out.2.1.drew.kept hk4 (by omega);have bE4:=hW3.out.2.2.1.drew.kept hk4 (by omega);have bL4:=BL.out.drew.kept hk4 (BL.out.ne hW3.out.1 (by decide));have bR4:=BR.out.drew.kept hk4 (BR.out.ne hW3.out.1 (by decide));have bx4:=BX.out.drew.kept hk4 (BX.out.ne hW3.out.1 (by decide));have vf4:w4.cell? ⟨w1.heap.size+1,0,none⟩=some (.pointer (some ⟨w1.heap.size,0,none⟩)):=bff4.cell 0 rfl;have l64:w4.cell? ⟨L,6,none⟩=some (.slice (some ⟨R,0,none⟩) 2 cap):=bL4.cell 6 rfl;have r04:w4.cell? ⟨R,0,none⟩=some (.string ⟨#[109,111,100,117,108,101]⟩):=bR4.cell 0 HC.out.1;have x04:w4.cell? ⟨w.heap.size,0,none⟩=some .nilFunc:=bx4.cell 0 rfl;have vE4:w4.cell? ⟨w1.heap.size+1+1,0,none⟩=some (.slice none 0 0):=bE4.cell 0 rfl;have bp4:=((HB.out.2.1.kept (Kp.of_below (X:=fun _=>False) hW3.out.2.2.2) (fun h=>h)).drew).kept hk4 (by omega);have be4:=((HB.out.2.2.1.kept (Kp.of_below (X:=fun _=>False) hW3.out.2.2.2) (fun h=>h)).drew).kept hk4 (by omega);have fp4:∀ j,w4.frozen? ⟨w.heap.size+1,j,none⟩=false:=fun j=>bp4.free j;have fe4:∀ j,w4.frozen? ⟨w.heap.size+1+1,j,none⟩=false:=fun j=>be4.free j;have ep4:w4.cell? ⟨w.heap.size+1,0,none⟩=some (.pointer none):=bp4.cell 0 rfl;have ee4:w4.cell? ⟨w.heap.size+1+1,0,none⟩=some .nilIface:=be4.cell 0 rfl;have BFF4:=hide (And.intro bff4 (And.intro bE4 (And.intro bx4 (And.intro bp4 be4))));have H4:=hide (And.intro hk4 (And.intro bf4 (And.intro cM4 hM4)));clear bp4 be4;clear hk4 bf4 cM4 hM4 bff4 bE4 bL4 bR4 bx4))
 go_wp2_with fail
 rw [rounds_succ]
 go_wp2_with fail
 have hW5:∀ Wx,Wx=(w4.setCell ⟨w.heap.size+1,0,none⟩ (.pointer (some ⟨w1.heap.size,0,none⟩))).setCell ⟨w.heap.size+1+1,0,none⟩ .nilIface →
     Blk Wx (w.heap.size+1) 64 #[.pointer (some ⟨w1.heap.size,0,none⟩)]∧Blk Wx (w.heap.size+1+1) 66 #[.nilIface]∧Blk Wx (w1.heap.size+1+1) 121 #[Value.slice none 0 0]∧Blk Wx (w1.heap.size+1) 64 #[Value.pointer (some ⟨w1.heap.size,0,none⟩)] ∧
     Blk Wx w.heap.size 75 #[Value.nilFunc]∧Below w.heap.size w Wx∧Kp (fun k=>k=w.heap.size+1∨k=w.heap.size+1+1) w4 Wx:=by
   rintro Wx rfl
   obtain ⟨bff4,bE4,bx4,bp4,be4⟩:=BFF4.out
   refine ⟨(bp4.set 0 _).set_other (by simp) _,(be4.set_other (by simp) _).set 0 _,(bE4.set_other (by simp;omega) _).set_other (by simp;omega) _,(bff4.set_other (by simp;omega) _).set_other (by simp;omega) _,
     (bx4.set_other (by simp) _).set_other (by simp;omega) _,?_,((Kp.refl _ w4).set (fun _=>Or.inl rfl)).set (fun _=>Or.inr rfl)⟩
   have k1:=(HB01.out.trans (hW3.out.2.2.2.mono HB01.out.size)).drew
   have k2:=H4.out.1.below (B:=w.heap.size) k1.size (fun k e=>by rw [e];omega)
   exact ((k1.trans k2).setCell (by simp) _).setCell (by simp;omega) _
 have H5:=hide (hW5 _ rfl)
 clear hW5
 generalize (w4.setCell ⟨w.heap.size+1,0,none⟩ (.pointer (some ⟨w1.heap.size,0,none⟩))).setCell ⟨w.heap.size+1+1,0,none⟩ .nilIface=W5 at H5 ⊢
 refine leaves_cons (f:=50) (args:=#[.pointer (some ⟨w1.heap.size+1+1,0,none⟩),.pointer (some ⟨w1.heap.size+1,0,none⟩),.pointer (some ⟨w.heap.size,0,none⟩),.pointer (some ⟨w.heap.size+1,0,none⟩),.pointer (some ⟨w.heap.size+1+1,0,none⟩)]) (by simp) (by simp [go_sem]) ?_
 refine (ptf_door (w1.heap.size+1+1) (w1.heap.size+1) w.heap.size (w.heap.size+1) (w.heap.size+1+1) w1.heap.size none 0 0 W5 (H5.out.2.2.1.cell 0 rfl) (H5.out.2.2.2.1.cell 0 rfl) (H5.out.2.2.2.2.1.cell 0 rfl)).mono ?_
 rintro e u' w6 ⟨rfl,rfl,hb6⟩
 have kp6:=Kp.of_below (X:=fun _=>False) hb6
 have ep6:w6.cell? ⟨w.heap.size+1,0,none⟩=some (.pointer (some ⟨w1.heap.size,0,none⟩)):=(H5.out.1.kept kp6 (fun h=>h)).cell 0 rfl
 have ee6:w6.cell? ⟨w.heap.size+1+1,0,none⟩=some .nilIface:=(H5.out.2.1.kept kp6 (fun h=>h)).cell 0 rfl
 simp [Leaves,settle,results,Tryz.results46,go_sem,ep6,ee6]
 obtain ⟨hk4,bf4,cM4,hM4⟩:=H4.out
 have hne1:¬ (w1.heap.size=w.heap.size+1∨w1.heap.size=w.heap.size+1+1):=by omega
 refine ⟨H5.out.2.2.2.2.2.1.trans (hb6.mono H5.out.2.2.2.2.2.1.size),?_⟩
 refine ⟨F,M,((bf4.kept H5.out.2.2.2.2.2.2 hne1).kept kp6 (fun h=>h)).eq (by simp [fileCells,nilS]),?_⟩
 have hMn:¬ (M=w.heap.size+1∨M=w.heap.size+1+1):=by
   rintro (e | e)
   · rw [e,ep4] at cM4;cases cM4
   · rw [e,ee4] at cM4;cases cM4
 have hM5:=H5.out.2.2.2.2.2.2.block M hM4 hMn
 have hM6:=hb6.block M (Nat.lt_of_lt_of_le hM4 H5.out.2.2.2.2.2.2.size)
 exact (World.cell?_of_block (w:=w4) (a:=⟨M,0,none⟩) (hM6.trans hM5)).trans cM4
end
section
open Go.RowKit Go.Proofs
def contentV (s:ByteArray):Value:=.agg #[.string s,.string ⟨#[]⟩,.string ⟨#[]⟩,.slice none 0 0,.slice none 0 0,.slice none 0 0,.slice none 0 0,.slice none 0 0,.slice none 0 0]
set_option maxHeartbeats 4000000 in
theorem contentOf_module (f F M:Nat) (s:ByteArray) (w:World) (hf:Blk w f 89 (fileCells (.pointer (some ⟨M,0,none⟩)) F)) (hM:w.cell? ⟨M,0,none⟩=some (.string s)) :
   Calls Tryz.prog 38 #[.pointer (some ⟨f,0,none⟩)] w fun e w'=>e=.returned (contentV s)∧Below w.heap.size w w':=by
 have p1:w.cell? ⟨f,1,none⟩=some (.pointer none):=hf.cell 1 rfl
 have p2:w.cell? ⟨f,2,none⟩=some (.pointer none):=hf.cell 2 rfl
 have p4:w.cell? ⟨f,4,none⟩=some (.slice none 0 0):=hf.cell 4 rfl
 have p5:w.cell? ⟨f,5,none⟩=some (.slice none 0 0):=hf.cell 5 rfl
 have p6:w.cell? ⟨f,6,none⟩=some (.slice none 0 0):=hf.cell 6 rfl
 have p7:w.cell? ⟨f,7,none⟩=some (.slice none 0 0):=hf.cell 7 rfl
 have p8:w.cell? ⟨f,8,none⟩=some (.slice none 0 0):=hf.cell 8 rfl
 have p9:w.cell? ⟨f,9,none⟩=some (.slice none 0 0):=hf.cell 9 rfl
 have p0:w.cell? ⟨f,0,none⟩=some (.pointer (some ⟨M,0,none⟩)):=hf.cell 0 rfl
 have lf:=hf.lt
 have lM:M < w.heap.size:=World.block_lt_of_cell? w _ hM
 have lf1:f < w.heap.size+1:=by omega
 have lf2:f < w.heap.size+1+1:=by omega
 have lM1:M < w.heap.size+1:=by omega
 have lM2:M < w.heap.size+1+1:=by omega
 clear hf
 go_enter Tryz.func38,Tryz.ntmps38
 go_wp2_with fail
 refine wp_loop_rounds 1 ?_
 rw [rounds_succ]
 go_wp2_with fail
 refine wp_loop_rounds 1 ?_
 rw [rounds_succ]
 go_wp2_with fail
 refine wp_loop_rounds 1 ?_
 rw [rounds_succ]
 go_wp2_with fail
 refine wp_loop_rounds 1 ?_
 rw [rounds_succ]
 go_wp2_with fail
 refine wp_loop_rounds 1 ?_
 rw [rounds_succ]
 go_wp2_with fail
 refine wp_loop_rounds 1 ?_
 rw [rounds_succ]
 go_wp2_with fail
 exact bodyPost_ret (v:=contentV s) (by simp [results,Tryz.results38,go_sem,contentV]) rfl ⟨rfl,((Below.refl _ _).alloc (Nat.le_refl _) _).alloc (by simp) _⟩
theorem bytesWorld_below' (w:World) (e:TypeId) (s:ByteArray):Below w.heap.size w (Lib.bytesWorld w e s) :=
 ⟨rfl,rfl,rfl,by rw [Lib.bytesWorld_size];omega,fun k hk=>Lib.bytesWorld_at_old w e s k (by omega)⟩
structure Asc (t:ByteArray) (T:List UInt8):Prop where
 eq:t.data.toList=T
 ascii:∀ j,ch T j < 128
 len:T.length≤1000000
theorem Asc.size {t:ByteArray} {T:List UInt8} (h:Asc t T):t.size=T.length:=by
 rw [← h.eq];cases t;simp [ByteArray.size]
theorem Asc.txt {t:ByteArray} {T:List UInt8} (h:Asc t T) (w:World):TxtAt (Lib.bytesWorld w 5 t) w.heap.size (grownCap w t.size 0 5) T:=by
 have hs:=h.size
 have hl:=h.len
 refine ⟨fun j hj=>?_,h.ascii,by rw [← hs];exact grownCap_ge _ _ _ _,?_,by omega,⟨_,_,Lib.bytesWorld_at_new w _ t⟩⟩
 · rw [Lib.bytesWorld_cell w _ t j (by omega),h.eq];rfl
 · have:=grownCap_le_maxLen w t.size 0 5 (by unfold maxLen;omega)
   unfold maxLen at this;omega
theorem mfParse_ok (w:World) (D C:Nat) (nm:ByteArray) (u:List UInt8) (s:ByteArray) (h:TxtAt w D C (docTxt [[modB,u]])) (hu:Wd u) (hps:∀ (R:Nat) (cur:Array Value),cur[1]?=some (.string (mkS u))→Reads1 R 1 cur s)
   (hpr:PrTab w) (hP:0 < w.heap.size) :
   Calls Tryz.prog 37 #[.string nm,.slice (some ⟨D,0,none⟩) (docTxt [[modB,u]]).length C,.nilFunc] w fun e w'=>∃ f F M,e=.returned (.tuple #[.pointer (some ⟨f,0,none⟩),.nilIface])∧Below w.heap.size w w'∧Blk w' f 89 (fileCells (.pointer (some ⟨M,0,none⟩)) F)∧w'.cell? ⟨M,0,none⟩=some (.string s):=by
 have HC:=hide (ptf_one w D C nm u s h hu hps hpr hP)
 clear h hps hpr
 go_enter Tryz.func37,Tryz.ntmps37
 go_wp2_with fail
 go_fit HC.out
 rintro e w1 ⟨f,F,M,rfl,hb,hB,hM⟩
 have HB:=hide hb
 clear hb
 go_wp2_with fail
 go_returns
 have hb:=HB.out
 exact ⟨f,F,M,rfl,hb,hB,hM⟩
def contentZ:Array Value:=#[.string ⟨#[]⟩,.string ⟨#[]⟩,.string ⟨#[]⟩,.slice none 0 0,.slice none 0 0,.slice none 0 0,.slice none 0 0,.slice none 0 0,.slice none 0 0]
set_option maxHeartbeats 2000000 in
theorem implParse_ok (w:World) (t:ByteArray) (u:List UInt8) (s:ByteArray) (ht:Asc t (docTxt [[modB,u]])) (hu:Wd u) (hps:∀ (R:Nat) (cur:Array Value),cur[1]?=some (.string (mkS u))→Reads1 R 1 cur s)
   (hpr:PrTab w) (hP:0 < w.heap.size) :
   Calls Tryz.prog 13 #[.string t] w fun e w'=>e=.returned (.tuple #[contentV s,.bool true])∧Below w.heap.size w w':=by
 have kc:=fun (W:World)=>Lib.run_convert_string_bytes (P:=Tryz.prog) W 9 69 5 t (u:=.string) (by kernel_rfl) (by kernel_rfl) (by kernel_rfl)
 have HT:=hide ht
 have HU:=hide hu
 have HS:=hide hps
 have HP:=hide hpr
 clear ht hu hps hpr
 go_enter Tryz.func13,Tryz.ntmps13
 go_wp2_with fail
 have htx:=HT.out.txt (w.alloc (Obj.cells contentZ 28))
 have hbb:=bytesWorld_below' (w.alloc (Obj.cells contentZ 28)) 5 t
 have bC:=(Blk.new w 28 contentZ).kept (Kp.of_below (X:=fun _=>False) hbb) (fun h=>h)
 have hb2:Below w.heap.size w (Lib.bytesWorld (w.alloc (Obj.cells contentZ 28)) 5 t):=((Below.refl _ w).alloc (Nat.le_refl _) _).trans (hbb.mono (by simp))
 rw [show (w.alloc (Obj.cells contentZ 28)).heap.size=w.heap.size+1 from by simp] at htx
 clear hbb
 unfold contentZ at htx bC hb2
 generalize grownCap (w.alloc (Obj.cells #[.string ⟨#[]⟩,.string ⟨#[]⟩,.string ⟨#[]⟩,.slice none 0 0,.slice none 0 0,.slice none 0 0,.slice none 0 0,.slice none 0 0,.slice none 0 0] 28)) t.size 0 5=C at htx ⊢
 generalize Lib.bytesWorld (w.alloc (Obj.cells #[.string ⟨#[]⟩,.string ⟨#[]⟩,.string ⟨#[]⟩,.slice none 0 0,.slice none 0 0,.slice none 0 0,.slice none 0 0,.slice none 0 0,.slice none 0 0] 28)) 5 t=W2 at htx bC hb2 ⊢
 have hsz:=HT.out.size
 rw [hsz]
 clear hsz
 have hpr2:PrTab W2:=HP.out.keptT (N:=w.heap.size) (S:=fun _=>True) ⟨hb2,fun k cs t fz e hn=>absurd True.intro hn⟩ hP
 go_fit (mfParse_ok W2 (w.heap.size+1) C ⟨#[103,111,46,109,111,100]⟩ u s htx HU.out HS.out hpr2 (Nat.lt_of_lt_of_le hP hb2.size))
 rintro e w3 ⟨f,F,M,rfl,hb3,hB3,hM3⟩
 have B3:=hide (And.intro hB3 hM3)
 have bC3:=bC.kept (Kp.of_below (X:=fun _=>False) hb3) (fun h=>h)
 have BC3:=hide bC3
 have HB3:=hide (hb2.trans (hb3.mono hb2.size))
 clear htx bC hb2 hpr2 hb3 hB3 hM3 bC3
 go_wp2_with fail
 go_fit (contentOf_module f F M s w3 B3.out.1 B3.out.2)
 rintro e w4 ⟨rfl,hb4⟩
 have bC4:=BC3.out.kept (Kp.of_below (X:=fun _=>False) hb4) (fun h=>h)
 have HB4:=hide (HB3.out.trans (hb4.mono HB3.out.size))
 have p0:w4.cell? ⟨w.heap.size,0,none⟩=some (.string ⟨#[]⟩):=bC4.cell 0 rfl
 have p1:w4.cell? ⟨w.heap.size,1,none⟩=some (.string ⟨#[]⟩):=bC4.cell 1 rfl
 have p2:w4.cell? ⟨w.heap.size,2,none⟩=some (.string ⟨#[]⟩):=bC4.cell 2 rfl
 have p3:w4.cell? ⟨w.heap.size,3,none⟩=some (.slice none 0 0):=bC4.cell 3 rfl
 have p4:w4.cell? ⟨w.heap.size,4,none⟩=some (.slice none 0 0):=bC4.cell 4 rfl
 have p5:w4.cell? ⟨w.heap.size,5,none⟩=some (.slice none 0 0):=bC4.cell 5 rfl
 have p6:w4.cell? ⟨w.heap.size,6,none⟩=some (.slice none 0 0):=bC4.cell 6 rfl
 have p7:w4.cell? ⟨w.heap.size,7,none⟩=some (.slice none 0 0):=bC4.cell 7 rfl
 have p8:w4.cell? ⟨w.heap.size,8,none⟩=some (.slice none 0 0):=bC4.cell 8 rfl
 have fC4:∀ j,w4.frozen? ⟨w.heap.size,j,none⟩=false:=fun j=>bC4.free j
 have BC4:=hide bC4
 clear hb4 bC4
 unfold contentV
 go_wp2_with fail
 refine (show ∀ W5:World,Blk W5 w.heap.size 28 #[.string s,.string ⟨#[]⟩,.string ⟨#[]⟩,.slice none 0 0,.slice none 0 0,.slice none 0 0,.slice none 0 0,.slice none 0 0,.slice none 0 0]→Below w.heap.size w W5→bodyPost Tryz.prog _ _ Exit.ret _ W5 from fun W5 b5 hb5=>?_) _
   ((((((((((BC4.out.set 0 (.string s)).set 1 (.string ⟨#[]⟩)).set 2 (.string ⟨#[]⟩)).set 3 (.slice none 0 0)).set 4 (.slice none 0 0)).set 5 (.slice none 0 0)).set 6 (.slice none 0 0)).set 7 (.slice none 0 0)).set 8 (.slice none 0 0)).eq (by simp))
   (((((((((HB4.out.setCell (Nat.le_refl _) _).setCell (Nat.le_refl _) _).setCell (Nat.le_refl _) _).setCell (Nat.le_refl _) _).setCell (Nat.le_refl _) _).setCell (Nat.le_refl _) _).setCell (Nat.le_refl _) _).setCell (Nat.le_refl _) _).setCell (Nat.le_refl _) _)
 have q1:W5.cell? ⟨w.heap.size,1,none⟩=some (.string ⟨#[]⟩):=b5.cell 1 rfl
 have q2:W5.cell? ⟨w.heap.size,2,none⟩=some (.string ⟨#[]⟩):=b5.cell 2 rfl
 have q3:W5.cell? ⟨w.heap.size,3,none⟩=some (.slice none 0 0):=b5.cell 3 rfl
 have q4:W5.cell? ⟨w.heap.size,4,none⟩=some (.slice none 0 0):=b5.cell 4 rfl
 have q5:W5.cell? ⟨w.heap.size,5,none⟩=some (.slice none 0 0):=b5.cell 5 rfl
 have q6:W5.cell? ⟨w.heap.size,6,none⟩=some (.slice none 0 0):=b5.cell 6 rfl
 have q7:W5.cell? ⟨w.heap.size,7,none⟩=some (.slice none 0 0):=b5.cell 7 rfl
 have q8:W5.cell? ⟨w.heap.size,8,none⟩=some (.slice none 0 0):=b5.cell 8 rfl
 have q0:W5.cell? ⟨w.heap.size,0,none⟩=some (.string s):=b5.cell 0 rfl
 exact bodyPost_ret (v:=.tuple #[contentV s,.bool true]) (by simp [results,Tryz.results13,go_sem,contentV,q0,q1,q2,q3,q4,q5,q6,q7,q8]) rfl ⟨rfl,hb5⟩
end
section
open Go.RowKit Go.Proofs
theorem Asc.of {t:ByteArray} {T:List UInt8} (he:bsl t=T) (h:∀ c ∈ T,c.toNat < 128) (hl:T.length≤1000000):Asc t T:=by
 refine ⟨he,fun j=>?_,hl⟩
 rcases Nat.lt_or_ge j T.length with hj | hj
 · obtain ⟨c,hc,e⟩:=ch_mem T j hj
   rw [e];exact h c hc
 · simp [ch,List.getD_eq_getElem?_getD,List.getElem?_eq_none hj]
theorem nice_m:Nice ⟨#[109]⟩:=by
 refine ⟨by decide,by decide,fun k hk=>?_,fun k hk=>?_⟩
 · obtain rfl:k=0:=by change k < 1 at hk;omega
   rfl
 · change k+1 < 1 at hk;omega
theorem Nice.wd {s:ByteArray} (h:Nice s):Wd (bsl s):=Or.inl h.idW
theorem reads_m (R:Nat) (cur:Array Value) (h:cur[1]?=some (.string (mkS [109]))):Reads1 R 1 cur ⟨#[109]⟩:=Reads1.plain nice_m.plain h
set_option maxHeartbeats 2000000 in
theorem reads_any (w:World) (hpr:PrTab w) (hP:0 < w.heap.size):Calls Tryz.prog 11 #[] w fun e w'=>e=.returned (.bool true)∧Below w.heap.size w w':=by
 have ha:Asc ⟨#[109,111,100,117,108,101,32,109,10]⟩ (docTxt [[modB,[109]]]):=Asc.of rfl (by decide) (by decide)
 have HC:=hide (implParse_ok w _ [109] ⟨#[109]⟩ ha nice_m.wd reads_m hpr hP)
 clear hpr ha
 go_enter Tryz.func11,Tryz.ntmps11
 go_wp2_with fail
 go_fit HC.out
 rintro e w1 ⟨rfl,hb⟩
 have HB:=hide hb
 clear hb
 unfold contentV
 go_wp2_with fail
 go_ret
 exact ⟨rfl,HB.out.alloc HB.out.size _⟩
theorem bsl_append (a b:ByteArray):bsl (a++b)=bsl a++bsl b:=by simp [bsl,ByteArray.data_append]
theorem Nice.ascii {s:ByteArray} (h:Nice s):∀ c ∈ bsl s,c.toNat < 128:=by
 intro c hc
 obtain ⟨i,hi,rfl⟩:=List.getElem_of_mem hc
 have hi':i < s.size:=by rw [← bsl_len];exact hi
 have:=wch_bd (h.chars i hi')
 rw [bt_ch] at this
 simp only [ch,List.getD_eq_getElem?_getD,List.getElem?_eq_getElem hi,Option.getD_some] at this
 omega
end
end Go.Proofs.YtifkpibjeamfkaaGreatFmt
