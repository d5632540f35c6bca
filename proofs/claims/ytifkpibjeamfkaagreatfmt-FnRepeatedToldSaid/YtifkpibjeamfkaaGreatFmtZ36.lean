/-
  The bounds of a content (zzFits1).
  strings.TrimSpace over a table of any values: it returns a part of the text.
  strings.Fields over a table of any values: it returns; the number of its fields is one that can be indexed.
-/
import Derived.Test.YtifkpibjeamfkaaGreatFmtZ35
import Derived.Test.YtifkpibjeamfkaaGreatFmtZ13
import Derived.Test.YtifkpibjeamfkaaGreatFmtZ15
import Derived.Test.YtifkpibjeamfkaaGreatFmtZ30
import Derived.Deep.OwnRows
import Derived.Deep.CutBlock
import Derived.Laws.BitsAllLaws
set_option linter.unusedVariables false
set_option linter.unusedSimpArgs false
set_option maxRecDepth 100000
namespace Go.Proofs.YtifkpibjeamfkaaGreatFmt
section
open Go.RowKit Go.Proofs
structure ContV (w:World) (c:Cont) (v1 v2 v3 v4 v5 v6:Value):Prop where
 r1:RowV w v1 3 (c.reqs.map reqV)
 r2:RowV w v2 2 (c.excs.map verV)
 r3:RowV w v3 4 (c.reps.map repV)
 r4:RowV w v4 3 (c.rets.map retV)
 r5:RowV w v5 1 (c.tools.map strV)
 r6:RowV w v6 1 (c.igns.map strV)
theorem ContV.below {w w':World} {c:Cont} {v1 v2 v3 v4 v5 v6:Value} (h:ContV w c v1 v2 v3 v4 v5 v6) (k:Below w.heap.size w w'):ContV w' c v1 v2 v3 v4 v5 v6 :=
 ⟨h.r1.below k,h.r2.below k,h.r3.below k,h.r4.below k,h.r5.below k,h.r6.below k⟩
structure FitsC (c:Cont):Prop where
 mod:szOk c.mod
 go:szOk c.go
 tc:szOk c.tc
 r1:c.reqs.length≤2147483647∧∀ r ∈ c.reqs,szOk r.p∧szOk r.v
 r2:c.excs.length≤2147483647∧∀ r ∈ c.excs,szOk r.p∧szOk r.v
 r3:c.reps.length≤2147483647∧∀ r ∈ c.reps,(szOk r.op∧szOk r.ov)∧szOk r.np∧szOk r.nv
 r4:c.rets.length≤2147483647∧∀ r ∈ c.rets,szOk r.lo∧szOk r.hi∧szOk r.why
 r5:c.tools.length≤2147483647∧∀ r ∈ c.tools,szOk r
 r6:c.igns.length≤2147483647∧∀ r ∈ c.igns,szOk r
abbrev contV' (c:Cont) (v1 v2 v3 v4 v5 v6:Value):Value:=.agg #[.string (mkS c.mod),.string (mkS c.go),.string (mkS c.tc),v1,v2,v3,v4,v5,v6]
def contC (c:Cont) (v1 v2 v3 v4 v5 v6:Value):Array Value:=#[.string (mkS c.mod),.string (mkS c.go),.string (mkS c.tc),v1,v2,v3,v4,v5,v6]
set_option maxHeartbeats 4000000 in
theorem zzFits1_any (c:Cont) (v1 v2 v3 v4 v5 v6:Value) (w:World) (h:ContV w c v1 v2 v3 v4 v5 v6):Calls Tryz.prog 7 #[contV' c v1 v2 v3 v4 v5 v6] w (SaysB (FitsC c) w):=by
 obtain ⟨s1,hs1⟩:∃ s,s=mkS c.mod:=⟨_,rfl⟩
 obtain ⟨s2,hs2⟩:∃ s,s=mkS c.go:=⟨_,rfl⟩
 obtain ⟨s3,hs3⟩:∃ s,s=mkS c.tc:=⟨_,rfl⟩
 have l1:s1.size=c.mod.length:=by rw [hs1,mkS_size]
 have l2:s2.size=c.go.length:=by rw [hs2,mkS_size]
 have l3:s3.size=c.tc.length:=by rw [hs3,mkS_size]
 unfold contV'
 rw [← hs1,← hs2,← hs3]
 have hS:∀ b:Bool,(b=true→FitsC c)→∀ w',Below w.heap.size w w'→SaysB (FitsC c) w (.returned (.bool b)) w':=fun b h w' h'=>⟨⟨b,rfl,h⟩,h'⟩
 have HS:=hide hS
 have HL:=hide (And.intro l1 (And.intro l2 l3))
 have HB0:=hide ((Below.refl w.heap.size w).alloc (Nat.le_refl _) (Obj.cells #[.string s1,.string s2,.string s3,v1,v2,v3,v4,v5,v6] 28))
 have HV0:=hide (h.below HB0.out)
 have HK0:=hide (Blk.new w 28 #[.string s1,.string s2,.string s3,v1,v2,v3,v4,v5,v6])
 clear hS l1 l2 l3 hs1 hs2 hs3 h
 by_cases h1:(2147483647:Int) < (s1.size:Int)
 · go_enter Tryz.func7,Tryz.ntmps7
   go_wp2_with fail
   go_ret
   exact HS.out false (fun h=>by cases h) _ HB0.out
 by_cases h2:(2147483647:Int) < (s2.size:Int)
 · go_enter Tryz.func7,Tryz.ntmps7
   go_wp2_with fail
   go_ret
   exact HS.out false (fun h=>by cases h) _ HB0.out
 by_cases h3:(2147483647:Int) < (s3.size:Int)
 · go_enter Tryz.func7,Tryz.ntmps7
   go_wp2_with fail
   go_ret
   exact HS.out false (fun h=>by cases h) _ HB0.out
 go_enter Tryz.func7,Tryz.ntmps7
 go_wp2_with fail
 generalize w.alloc (Obj.cells #[.string s1,.string s2,.string s3,v1,v2,v3,v4,v5,v6] 28)=W0 at HB0 HV0 HK0 ⊢
 go_fit (zzFits2_any c.reqs v1 _ HV0.out.r1)
 rintro e w1 ⟨⟨b1,rfl,hb1⟩,hw1⟩
 have HB1:=hide (HB0.out.trans (hw1.mono HB0.out.size))
 have HV1:=hide (HV0.out.below hw1)
 have HK1:=hide (HK0.out.kept (Kp.of_below (X:=fun _=>False) hw1) (fun h=>h))
 have k1_2:=HK1.out.cell 4 rfl
 have k1_3:=HK1.out.cell 5 rfl
 have k1_4:=HK1.out.cell 6 rfl
 have k1_5:=HK1.out.cell 7 rfl
 have k1_6:=HK1.out.cell 8 rfl
 have HT1:=hide hb1
 clear hb1 hw1
 cases b1 with
 | false =>
   go_wp2_with fail
   go_ret
   exact HS.out false (fun h=>by cases h) _ HB1.out
 | true =>
   have HR1:=hide (HT1.out rfl)
   go_wp2_with fail
   go_fit (zzFits4_any c.excs v2 _ HV1.out.r2)
   rintro e w2 ⟨⟨b2,rfl,hb2⟩,hw2⟩
   have HB2:=hide (HB1.out.trans (hw2.mono HB1.out.size))
   have HV2:=hide (HV1.out.below hw2)
   have HK2:=hide (HK1.out.kept (Kp.of_below (X:=fun _=>False) hw2) (fun h=>h))
   have k2_3:=HK2.out.cell 5 rfl
   have k2_4:=HK2.out.cell 6 rfl
   have k2_5:=HK2.out.cell 7 rfl
   have k2_6:=HK2.out.cell 8 rfl
   have HT2:=hide hb2
   clear hb2 hw2
   cases b2 with
   | false =>
     go_wp2_with fail
     go_ret
     exact HS.out false (fun h=>by cases h) _ HB2.out
   | true =>
     have HR2:=hide (HT2.out rfl)
     go_wp2_with fail
     go_fit (zzFits6_any c.reps v3 _ HV2.out.r3)
     rintro e w3 ⟨⟨b3,rfl,hb3⟩,hw3⟩
     have HB3:=hide (HB2.out.trans (hw3.mono HB2.out.size))
     have HV3:=hide (HV2.out.below hw3)
     have HK3:=hide (HK2.out.kept (Kp.of_below (X:=fun _=>False) hw3) (fun h=>h))
     have k3_4:=HK3.out.cell 6 rfl
     have k3_5:=HK3.out.cell 7 rfl
     have k3_6:=HK3.out.cell 8 rfl
     have HT3:=hide hb3
     clear hb3 hw3
     cases b3 with
     | false =>
       go_wp2_with fail
       go_ret
       exact HS.out false (fun h=>by cases h) _ HB3.out
     | true =>
       have HR3:=hide (HT3.out rfl)
       go_wp2_with fail
       go_fit (zzFits8_any c.rets v4 _ HV3.out.r4)
       rintro e w4 ⟨⟨b4,rfl,hb4⟩,hw4⟩
       have HB4:=hide (HB3.out.trans (hw4.mono HB3.out.size))
       have HV4:=hide (HV3.out.below hw4)
       have HK4:=hide (HK3.out.kept (Kp.of_below (X:=fun _=>False) hw4) (fun h=>h))
       have k4_5:=HK4.out.cell 7 rfl
       have k4_6:=HK4.out.cell 8 rfl
       have HT4:=hide hb4
       clear hb4 hw4
       cases b4 with
       | false =>
         go_wp2_with fail
         go_ret
         exact HS.out false (fun h=>by cases h) _ HB4.out
       | true =>
         have HR4:=hide (HT4.out rfl)
         go_wp2_with fail
         go_fit (zzFits10_any c.tools v5 _ HV4.out.r5)
         rintro e w5 ⟨⟨b5,rfl,hb5⟩,hw5⟩
         have HB5:=hide (HB4.out.trans (hw5.mono HB4.out.size))
         have HV5:=hide (HV4.out.below hw5)
         have HK5:=hide (HK4.out.kept (Kp.of_below (X:=fun _=>False) hw5) (fun h=>h))
         have k5_6:=HK5.out.cell 8 rfl
         have HT5:=hide hb5
         clear hb5 hw5
         cases b5 with
         | false =>
           go_wp2_with fail
           go_ret
           exact HS.out false (fun h=>by cases h) _ HB5.out
         | true =>
           have HR5:=hide (HT5.out rfl)
           go_wp2_with fail
           go_fit (zzFits10_any c.igns v6 _ HV5.out.r6)
           rintro e w6 ⟨⟨b6,rfl,hb6⟩,hw6⟩
           have HB6:=hide (HB5.out.trans (hw6.mono HB5.out.size))
           have HV6:=hide (HV5.out.below hw6)
           have HK6:=hide (HK5.out.kept (Kp.of_below (X:=fun _=>False) hw6) (fun h=>h))
           have HT6:=hide hb6
           clear hb6 hw6
           cases b6 with
           | false =>
             go_wp2_with fail
             go_ret
             exact HS.out false (fun h=>by cases h) _ HB6.out
           | true =>
             have HR6:=hide (HT6.out rfl)
             go_wp2_with fail
             go_ret
             exact HS.out true (fun _=>⟨by have:=HL.out.1;unfold szOk;omega,by have:=HL.out.2.1;unfold szOk;omega,by have:=HL.out.2.2;unfold szOk;omega,HR1.out,HR2.out,HR3.out,HR4.out,HR5.out,HR6.out⟩) _ HB6.out
end
section
open Go.RowKit Go.Proofs
def AscS (s:ByteArray):Prop:=s.size≤1000000∧∀ k,bt s k < 128
theorem AscS.asc {s:ByteArray} (h:AscS s):Asc s (bsl s):=⟨rfl,fun j=>by rw [← bt_ch];exact h.2 j,by rw [bsl_len];exact h.1⟩
theorem bt_extract (s:ByteArray) (a b q:Nat) (h:q < b - a):bt (s.extract a b) q=bt s (a+q):=by
 rw [bt_ch,bt_ch,bslX]
 simp only [ch,List.getD_eq_getElem?_getD,List.getElem?_take,List.getElem?_drop]
 rw [if_pos h]
theorem bt_out (s:ByteArray) (k:Nat) (h:s.size≤k):bt s k=0:=by
 rw [bt_ch]
 simp [ch,List.getD_eq_getElem?_getD,List.getElem?_eq_none (show (bsl s).length≤k by rw [bsl_len];exact h)]
theorem ascS_nil:AscS ⟨#[]⟩:=⟨by decide,fun k=>by rw [bt_out _ _ (Nat.zero_le _)];omega⟩
theorem AscS.sub {s:ByteArray} (h:AscS s) (a b:Nat):AscS (s.extract a b):=by
 refine ⟨by have:=h.1;simp [ByteArray.size_extract];omega,fun k=>?_⟩
 rcases Nat.lt_or_ge k (b - a) with hk | hk
 · rw [bt_extract _ _ _ _ hk];exact h.2 _
 · rw [bt_out _ _ (by simp [ByteArray.size_extract];omega)];omega
set_option maxHeartbeats 4000000 in
theorem strTrim_any (s:ByteArray) (w:World) (f:Nat→Int) (ha:AscS s) (hf:OpTab w 4 f) (hg:4 < w.heap.size) :
   Calls Tryz.prog 120 #[.string s] w fun e w'=>(∃ s',e=.returned (.string s')∧AscS s'∧s'.size≤s.size)∧Below w.heap.size w w':=by
 have kc:=fun (W:World)=>Lib.run_convert_string_bytes (P:=Tryz.prog) W 9 69 5 s (u:=.string) (by kernel_rfl) (by kernel_rfl) (by kernel_rfl)
 have HA:=hide ha
 have HF:=hide hf
 have hsz1:=ha.1
 have hno:∀ W,Below w.heap.size w W→(∃ s',Ending.returned (.string ⟨#[]⟩)=.returned (.string s')∧AscS s'∧s'.size≤s.size)∧Below w.heap.size w W:=fun W hb=>⟨⟨⟨#[]⟩,rfl,ascS_nil,Nat.zero_le _⟩,hb⟩
 have NO:=hide hno
 clear ha hf hno
 go_enter Tryz.func120,Tryz.ntmps120
 go_wp2_with fail
 have htx:=HA.out.asc.txt w
 have hbb:=bytesWorld_below' w 5 s
 generalize grownCap w s.size 0 5=C at htx ⊢
 generalize Lib.bytesWorld w 5 s=W2 at htx hbb ⊢
 have HTX:=hide htx
 have HB:=hide hbb
 have hf2:OpTab W2 4 f:=HF.out.below hbb hg
 have HF2:=hide hf2
 clear htx hbb hf2
 have hlen:=bsl_len s
 go_loopg [0,10] s.size (fun k v0 v10 wr=>wr=W2∧v0=.string s∧∃ j:Nat,j+k=s.size∧v10=.int .i64 (j:Int))
 case atStart=>exact ⟨rfl,rfl,0,by omega,rfl⟩
 case round =>
   obtain ⟨rfl,rfl,j,hj,rfl⟩:=hrel
   rcases Nat.lt_or_ge j s.size with hlt | hge
   · have c1:=HTX.out.cell j (by omega)
     have c2:=HTX.out.ascii j
     have c3:=HF2.out (ch (bsl s) j) (by omega)
     obtain ⟨x,hx⟩:∃ x,ch (bsl s) j=x:=⟨_,rfl⟩
     rw [hx] at c1 c2 c3
     obtain ⟨y,hy⟩:∃ y,f x=y:=⟨_,rfl⟩
     rw [hy] at c3
     have g0:(0:Int)≤(j:Int):=by omega
     have g1:(j:Int) < (s.size:Int):=by omega
     have g1':(j:Int)≤(s.size:Int):=by omega
     have g2:¬ (128:Int)≤(x:Int):=by omega
     have g3:(x:Int) < 256:=by omega
     have g4:x < 256:=by omega
     by_cases hy0:y=0
     · have z1:(y != 0)=false:=by simp [hy0]
       have HY:=hide (And.intro hx (And.intro hy hy0))
       clear hy hx hy0
       have gs:IntKind.i64.wrap ((s.size:Int) - (j:Int) - 1)=(s.size:Int) - (j:Int) - 1:=Go.IntWalk.i64_in _ (by omega)
       have hts:(s.extract j s.size).size=s.size - j:=by simp
       have htb:∀ q,q < s.size - j→bt (s.extract j s.size) q=ch (bsl s) (j+q):=fun q hq=>by rw [bt_extract _ _ _ _ hq,bt_ch]
       obtain ⟨t,ht⟩:∃ t,t=s.extract j s.size:=⟨_,rfl⟩
       rw [← ht] at hts htb
       have hta:AscS t:=by rw [ht];exact HA.out.sub _ _
       have HT:=hide (And.intro htb hta)
       clear htb hta
       go_wp2_with fail
       rw [← ht]
       clear ht
       go_loopg [5] (s.size - j) (fun k v5 wr2=>wr2=wr∧k≤s.size - j∧∃ q:Nat,q+1=k∧v5=.int .i64 (q:Int))
       case atStart=>exact ⟨rfl,Nat.le_refl _,s.size - j - 1,by omega,congrArg (Value.int .i64) (by omega)⟩
       case round =>
         obtain ⟨rfl,hk,q,hq,rfl⟩:=hrel
         have hqt:q < t.size:=by omega
         have d0:(t[q]'hqt).toNat=bt t q:=bt_get t q hqt
         have d1:bt t q=ch (bsl s) (j+q):=HT.out.1 q (by omega)
         have d2:=HTX.out.ascii (j+q)
         have d3:=HF2.out (ch (bsl s) (j+q)) (by omega)
         rw [d1] at d0
         obtain ⟨x2,hx2⟩:∃ x2,ch (bsl s) (j+q)=x2:=⟨_,rfl⟩
         rw [hx2] at d0 d1 d2 d3
         obtain ⟨y2,hy2⟩:∃ y2,f x2=y2:=⟨_,rfl⟩
         rw [hy2] at d3
         have e1:(0:Int)≤(q:Int):=by omega
         have e2:¬ (128:Int)≤(x2:Int):=by omega
         have e3:(x2:Int) < 256:=by omega
         have e4:x2 < 256:=by omega
         have e5:(q:Int) < (t.size:Int):=by omega
         have e7:(q:Int)+1≤(t.size:Int):=by omega
         by_cases hy20:y2=0
         · have z2:(y2 == 0)=true:=by simp [hy20]
           clear hy2 hx2 hy20 d1
           go_wp2_with fail
           go_ret
           exact ⟨⟨_,rfl,HT.out.2.sub _ _,by simp [ByteArray.size_extract];omega⟩,HB.out⟩
         · have z2:(y2 == 0)=false:=by simp [hy20]
           have hq0:0 < q:=by
             rcases Nat.eq_zero_or_pos q with h0 | h0
             · subst h0
               have h1:=HY.out
               rw [Nat.add_zero] at hx2
               exact absurd (by rw [← hy2,← hx2,h1.1,h1.2.1,h1.2.2]) hy20
             · exact h0
           clear hy2 hx2 hy20 d1
           go_wp2_with fail
           go_roundg (gk - 1)
           case measure=>omega
           case rel=>exact ⟨rfl,by omega,q - 1,by omega,congrArg (Value.int .i64) (by omega)⟩
     · have z1:(y != 0)=true:=by simp [hy0]
       clear hy hx hy0
       go_wp2_with fail
       go_roundg (s.size - (j+1))
       case measure=>omega
       case rel=>exact ⟨rfl,rfl,j+1,by omega,by simp⟩
   · have g1:¬ (j:Int) < (s.size:Int):=by omega
     go_wp2_with fail
     go_ret
     exact NO.out _ HB.out
end
section
open Go.RowKit Go.Proofs
theorem andNot_small (a b:Nat) (ha:a < 256) (hb:b < 256):∃ r:Nat,bits .and .i64 (a:Int) (bits .xor .i64 (-1) (b:Int))=(r:Int)∧r≤a∧(b=0→r=a):=by
 have hA:(BitVec.ofInt 64 (a:Int)).toNat=a:=ofInt_u64 a (by omega)
 generalize hX:bits .xor .i64 (-1) (b:Int)=X
 have hle:(BitVec.ofInt 64 (a:Int) &&& BitVec.ofInt 64 X).toNat≤a:=by
   rw [BitVec.toNat_and,hA];exact Nat.and_le_left
 refine ⟨(BitVec.ofInt 64 (a:Int) &&& BitVec.ofInt 64 X).toNat,?_,hle,fun hb0=>?_⟩
 · show IntKind.i64.wrap ((BitVec.ofInt 64 (a:Int) &&& BitVec.ofInt 64 X).toNat:Int)=_
   exact Go.IntWalk.i64_in _ (by omega)
 · subst hb0
   have hX1:X=-1:=by rw [← hX];decide
   subst hX1
   rw [BitVec.toNat_and,hA]
   have:(BitVec.ofInt 64 (-1)).toNat=2 ^ 64 - 1:=by decide
   rw [this,Nat.and_two_pow_sub_one_eq_mod]
   omega
def stF (f:Nat→Int) (s:ByteArray) (i:Nat):Prop:=f (bt s i)=0∧(i=0∨f (bt s (i - 1))≠0)
open Classical in
noncomputable def cF (f:Nat→Int) (s:ByteArray):Nat→Nat
 | 0=>0
 | i+1=>cF f s i+if stF f s i then 1 else 0
theorem cF_mono (f:Nat→Int) (s:ByteArray):∀ {i j:Nat},i≤j→cF f s i≤cF f s j:=by
 intro i j h
 induction j with
 | zero => obtain rfl : i = 0 := by omega
           exact Nat.le_refl _
 | succ j ih =>
   rcases Nat.lt_or_ge i (j+1) with h1 | h1
   · have:=ih (by omega)
     simp only [cF];omega
   · obtain rfl:i=j+1:=by omega
     exact Nat.le_refl _
theorem cF_yes {f:Nat→Int} {s:ByteArray} {i:Nat} (h:stF f s i):cF f s (i+1)=cF f s i+1:=by simp [cF,h]
theorem cF_no {f:Nat→Int} {s:ByteArray} {i:Nat} (h:¬ stF f s i):cF f s (i+1)=cF f s i:=by simp [cF,h]
theorem cF_flat {f:Nat→Int} {s:ByteArray} {a b:Nat} (hab:a≤b) (h:∀ q,a≤q→q < b→¬ stF f s q):cF f s b=cF f s a:=by
 induction b with
 | zero => obtain rfl : a = 0 := by omega
           rfl
 | succ b ih =>
   rcases Nat.lt_or_ge a (b+1) with h1 | h1
   · rw [cF_no (h b (by omega) (by omega))]
     exact ih (by omega) (fun q h2 h3=>h q h2 (by omega))
   · obtain rfl:a=b+1:=by omega
     rfl
structure FdI (f:Nat→Int) (s:ByteArray) (w:World) (nn na fs i:Nat) (cs:Array Value) (wx:World):Prop where
 bk:Blk wx w.heap.size 9 cs
 sz:cs.size=nn
 st:∀ q,q < nn→∃ x,cs[q]?=some (.string x)
 bl:Below w.heap.size w wx
 na:na=cF f s fs
 hd:fs < s.size→f (bt s fs)=0∧(fs=0∨f (bt s (fs - 1))≠0)
 in':∀ q,fs≤q→q < i→f (bt s q)=0
theorem FdI.lt {f:Nat→Int} {s:ByteArray} {w wx:World} {nn na fs i:Nat} {cs:Array Value} (h:FdI f s w nn na fs i cs wx) (hfs:fs < s.size) (hc:cF f s s.size≤nn):na < nn:=by
 have h1:stF f s fs:=h.hd hfs
 have h2:=cF_yes h1
 have h3:=cF_mono f s (show fs+1≤s.size from hfs)
 have:=h.na
 omega
theorem FdI.put {f:Nat→Int} {s:ByteArray} {w wx:World} {nn na fs i:Nat} {cs:Array Value} (h:FdI f s w nn na fs i cs wx) (hna:na < nn) (x:ByteArray) :
   Blk (wx.setCell ⟨w.heap.size,na,none⟩ (.string x)) w.heap.size 9 (cs.setIfInBounds na (.string x))∧(cs.setIfInBounds na (.string x)).size=nn∧(∀ q,q < nn→∃ x',(cs.setIfInBounds na (.string x))[q]?=some (.string x'))∧Below w.heap.size w (wx.setCell ⟨w.heap.size,na,none⟩ (.string x)):=by
 refine ⟨h.bk.set _ _,by simp [h.sz],fun q hq=>?_,h.bl.setCell (Nat.le_refl _) _⟩
 by_cases hqn:q=na
 · subst hqn
   exact ⟨x,by simp [h.sz,hq]⟩
 · obtain ⟨x',hx'⟩:=h.st q hq
   exact ⟨x',by rw [Array.getElem?_setIfInBounds_ne (by omega)];exact hx'⟩
set_option maxHeartbeats 16000000 in
set_option maxRecDepth 1000000 in
theorem fields_any (s:ByteArray) (w:World) (f:Nat→Int) (ha:AscS s) (hf:OpTab w 4 f) (hfb:∀ c,0≤f c∧f c < 256) (hg:4 < w.heap.size) :
   Calls Tryz.prog 115 #[.string s] w fun e w'=>(∃ n,e=.returned (.slice (some ⟨w.heap.size,0,none⟩) n n)∧(0 < n→∃ x,w'.cell? ⟨w.heap.size,0,none⟩=some (.string x)))∧Below w.heap.size w w':=by
 have hi9:(Tryz.prog.info? 9).map (fun i=>(i.zero,i.size,i.bytes))=some (some (.string ByteArray.empty),1,16):=by kernel_rfl
 have HA:=hide ha
 have HF:=hide hf
 have HFB:=hide hfb
 have hsz:=ha.1
 clear ha hf hfb
 go_enter Tryz.func115,Tryz.ntmps115
 go_wp2
 go_loopg [3,4,5,6] s.size (fun g s3 s4 s5 s6 wx=>w=wx∧∃ (k nn sb ws:Nat),k≤s.size∧g=s.size - k∧s6=.int .i64 k∧s3=.int .i64 nn∧s4=.int .i64 ws∧s5=.int .u8 sb∧sb < 128∧nn≤256 * k∧cF f s k≤nn∧ws < 256∧(k=0→ws=1)∧(0 < k→(ws:Int)=f (bt s (k - 1))))
 case atStart=>exact ⟨rfl,0,0,0,1,Nat.zero_le _,rfl,rfl,rfl,rfl,rfl,by omega,by omega,by simp [cF],by omega,fun _=>rfl,fun h=>absurd h (by omega)⟩
 case round =>
   obtain ⟨rfl,k,nn,sb,ws,hk,rfl,rfl,rfl,rfl,rfl,hsb,hnk,hc,hws,hw0,hw1⟩:=hrel
   by_cases hkn:k < s.size
   · have hkz:(k:Int) < (s.size:Int):=by omega
     have hx:(s[k]'hkn).toNat=bt s k:=bt_get s k hkn
     have hx128:=HA.out.2 k
     have hTx:=HF.out (bt s k) (by omega)
     obtain ⟨y,hy⟩:∃ y:Nat,f (bt s k)=(y:Int):=⟨(f (bt s k)).toNat,by have:=(HFB.out (bt s k)).1;omega⟩
     have hyb:y < 256:=by have:=(HFB.out (bt s k)).2;omega
     rw [hy] at hTx
     obtain ⟨x,hxx⟩:∃ x,bt s k=x:=⟨_,rfl⟩
     rw [hxx] at hx hx128 hTx hy
     have hxz:(x:Int) < 256:=by omega
     have hxz2:x < 256:=by omega
     have hor:bits .or .u8 (sb:Int) (x:Int)=((sb ||| x:Nat):Int):=u8_or_nat _ _ (by omega) (by omega)
     have hor128:sb ||| x < 128:=Nat.or_lt_two_pow (n:=7) hsb hx128
     obtain ⟨r,hr,hr1,hr2⟩:=andNot_small ws y hws hyb
     have hwy:IntKind.i64.wrap (y:Int)=(y:Int):=Go.IntWalk.i64_in _ (by omega)
     have hwn:IntKind.i64.wrap ((nn:Int)+(r:Int))=(nn:Int)+(r:Int):=Go.IntWalk.i64_in _ (by omega)
     have HC:=hide (And.intro hc (And.intro hw0 (And.intro hw1 (And.intro hr2 (And.intro hy hxx)))))
     clear hc hw0 hw1 hr2 hy hxx
     go_wp2
     go_roundg (s.size - (k+1))
     case measure=>omega
     case rel =>
       obtain ⟨hc,hw0,hw1,hr2,hy,hxx⟩:=HC.out
       refine ⟨rfl,k+1,nn+r,sb ||| x,y,by omega,rfl,by simp,by simp;unfold RowKit.wrap64;omega,rfl,rfl,hor128,by omega,?_,hyb,fun h=>absurd h (by omega),fun _=>by rw [Nat.add_sub_cancel,hxx,hy]⟩
       by_cases hst:stF f s k
       · rw [cF_yes hst]
         have h0:=hst.1
         rw [hxx,hy] at h0
         have:=hr2 (by omega)
         rcases Nat.eq_zero_or_pos k with hk0 | hk0
         · have:=hw0 hk0;omega
         · have h1:=hw1 hk0
           have h2:=hst.2.resolve_left (by omega)
           omega
       · rw [cF_no hst];omega
   · obtain rfl:k=s.size:=by omega
     have hkz:¬ ((s.size:Int) < (s.size:Int)):=by omega
     have hsbz:¬ ((128:Int)≤(sb:Int)):=by omega
     have HC:=hide hc
     clear hc hw0 hw1
     have hmk:=run_make_row' (P:=Tryz.prog) 26 9 (.string ByteArray.empty) 16 Tryz.und_strs hi9 rfl .i64 .i64 nn (by omega) (by omega)
     go_upto_block 2 with fail
     clear hmk
     have hBW:Below w.heap.size w (w.alloc (.cells (madeCells #[Value.string ByteArray.empty] nn) 9)):=(Below.refl _ w).alloc (Nat.le_refl _) _
     have hbk:=Blk.new w 9 (madeCells #[Value.string ByteArray.empty] nn)
     have hms:(madeCells #[Value.string ByteArray.empty] nn).size=nn:=size_madeCells _ _
     have hmc:∀ q,q < nn→∃ x,(madeCells #[Value.string ByteArray.empty] nn)[q]?=some (.string x):=by
       intro q hq
       refine ⟨ByteArray.empty,?_⟩
       simp [madeCells,hq,Nat.mod_one]
     generalize w.alloc (.cells (madeCells #[Value.string ByteArray.empty] nn) 9)=W at hBW hbk ⊢
     generalize madeCells #[Value.string ByteArray.empty] nn=cs0 at hbk hms hmc
     have hF2:OpTab W 4 f:=HF.out.below hBW hg
     have HF2:=hide hF2
     have HBW:=hide hBW
     have HBK:=hide hbk
     have HMC:=hide (And.intro hms hmc)
     clear hF2 hBW hbk hms hmc
     go_cut [12] from 42 to 55 (fun s12 wx=>W=wx∧∃ i:Nat,i≤s.size∧s12=.int .i64 i∧Hid (cF f s i=0∧(i < s.size→f (bt s i)=0∧(i=0∨f (bt s (i - 1))≠0))))
     case first =>
       go_wp2_with fail
       go_loopg [12] s.size (fun g s12 wx=>W=wx∧∃ i:Nat,i≤s.size∧g=s.size - i∧s12=.int .i64 i∧Hid (cF f s i=0∧(i=0∨f (bt s (i - 1))≠0)))
       case atStart=>exact ⟨rfl,0,Nat.zero_le _,rfl,rfl,hide ⟨rfl,Or.inl rfl⟩⟩
       case round =>
         obtain ⟨rfl,i,hi,rfl,rfl,hf⟩:=hrel
         by_cases hin:i < s.size
         · have hiz:(i:Int) < (s.size:Int):=by omega
           have hx:(s[i]'hin).toNat=bt s i:=bt_get s i hin
           have hx128:=HA.out.2 i
           have hTx:=HF2.out (bt s i) (by omega)
           obtain ⟨y,hy⟩:∃ y:Int,f (bt s i)=y:=⟨_,rfl⟩
           rw [hy] at hTx
           obtain ⟨x,hxx⟩:∃ x,bt s i=x:=⟨_,rfl⟩
           rw [hxx] at hx hx128 hTx hy
           have hxz:(x:Int) < 256:=by omega
           have hxz2:x < 256:=by omega
           have HXX:=hide (And.intro hxx hy)
           clear hxx hy
           by_cases hy0:y=0
           · have hz:(y != 0)=false:=by simp [hy0]
             have HY0:=hide hy0
             clear hy0
             go_wp2
             go_meet
             exact ⟨rfl,i,hi,rfl,hide ⟨hf.out.1,fun _=>⟨by rw [HXX.out.1,HXX.out.2,HY0.out],hf.out.2⟩⟩⟩
           · have hz:(y != 0)=true:=by simp [hy0]
             have HY0:=hide hy0
             clear hy0
             go_wp2
             go_roundg (s.size - (i+1))
             case measure=>omega
             case rel =>
               have h1:f (bt s i)≠0:=by rw [HXX.out.1,HXX.out.2];exact HY0.out
               exact ⟨rfl,i+1,by omega,rfl,by first | rfl | simp,hide ⟨by rw [cF_no (fun h=>h1 h.1)];exact hf.out.1,Or.inr (by rw [Nat.add_sub_cancel];exact h1)⟩⟩
         · obtain rfl:i=s.size:=by omega
           have hiz:¬ ((s.size:Int) < (s.size:Int)):=by omega
           go_wp2
           go_meet
           exact ⟨rfl,s.size,Nat.le_refl _,rfl,hide ⟨hf.out.1,fun h=>absurd h (by omega)⟩⟩
     case rest =>
       obtain ⟨rfl,i0,hi0,rfl,h0⟩:=hcut
       have HCS:=hide (show cF f s s.size≤nn from HC.out)
       have hd0:=hide (show FdI f s w nn 0 i0 i0 cs0 W from ⟨HBK.out,HMC.out.1,HMC.out.2,HBW.out,h0.out.1.symm,h0.out.2,fun q h1 h2=>absurd h2 (by omega)⟩)
       clear HC h0 HMC HBK HBW HF2
       go_wp2
       go_loopg [10,11,12] (s.size - i0) (fun g s10 s11 s12 wx=>∃ (na fs i:Nat) (cs:Array Value),s10=.int .i64 na∧s11=.int .i64 fs∧s12=.int .i64 i∧fs≤i∧i≤s.size∧g=s.size - i∧Hid (FdI f s w nn na fs i cs wx))
       case atStart=>exact ⟨0,i0,i0,cs0,rfl,rfl,rfl,Nat.le_refl _,hi0,rfl,hd0⟩
       case round =>
         obtain ⟨na,fs,i,cs,rfl,rfl,rfl,hfi,hi,rfl,HI⟩:=hrel
         clear hd0
         by_cases hin:i < s.size
         · have hiz:(i:Int) < (s.size:Int):=by omega
           have hx:(s[i]'hin).toNat=bt s i:=bt_get s i hin
           have hx128:=HA.out.2 i
           have hT2:OpTab wr 4 f:=HF.out.below HI.out.bl hg
           have hTx:=hT2 (bt s i) (by omega)
           have HT2:=hide hT2
           clear hT2
           obtain ⟨y,hy⟩:∃ y:Int,f (bt s i)=y:=⟨_,rfl⟩
           rw [hy] at hTx
           obtain ⟨x,hxx⟩:∃ x,bt s i=x:=⟨_,rfl⟩
           rw [hxx] at hx hx128 hTx hy
           have hxz:(x:Int) < 256:=by omega
           have hxz2:x < 256:=by omega
           have hfx:f (bt s i)=y:=by rw [hxx];exact hy
           have HXX:=hide hfx
           clear hxx hy hfx
           by_cases hy0:y=0
           · have hz:(y == 0)=true:=by simp [hy0]
             have HY0:=hide hy0
             clear hy0
             go_wp2
             go_roundg (s.size - (i+1))
             case measure=>omega
             case rel =>
               have h1:=HI.out
               exact ⟨na,fs,i+1,cs,rfl,rfl,by first | rfl | simp,by omega,by omega,rfl,hide ⟨h1.bk,h1.sz,h1.st,h1.bl,h1.na,h1.hd,fun q h2 h3=>by
                 rcases Nat.lt_or_ge q i with h4 | h4
                 · exact h1.in' q h2 h4
                 · obtain rfl:q=i:=by omega
                   rw [HXX.out,HY0.out]⟩⟩
           · have hz:(y == 0)=false:=by simp [hy0]
             have hlt:fs < i:=by
               refine Nat.lt_of_le_of_ne hfi fun h=>?_
               have:=(HI.out.hd (by omega)).1
               rw [h,HXX.out] at this
               exact hy0 this
             have hna:=HI.out.lt (by omega) HCS.out
             obtain ⟨x0,hx0⟩:=HI.out.st na hna
             have hnext:wr.cell? ⟨w.heap.size,na,none⟩=some (.string x0):=HI.out.bk.cell na hx0
             have hfr:∀ q,wr.frozen? ⟨w.heap.size,q,none⟩=false:=fun q=>HI.out.bk.free q
             have hdz:(na:Int) < (nn:Int):=by omega
             have hdz0:(0:Int)≤(na:Int):=by omega
             have c1:(fs:Int)≤(i:Int):=by omega
             have c2:(i:Int)≤(s.size:Int):=by omega
             have HY0:=hide hy0
             clear hy0 hx0
             go_wp2
             have hput:=HI.out.put hna (s.extract fs i)
             have HP:=hide hput
             have hT3:OpTab (wr.setCell ⟨w.heap.size,na,none⟩ (.string (s.extract fs i))) 4 f:=HF.out.below hput.2.2.2 hg
             have HT3:=hide hT3
             clear hT3 hput hnext hfr hTx
             generalize wr.setCell ⟨w.heap.size,na,none⟩ (.string (s.extract fs i))=W3 at HP HT3 ⊢
             generalize cs.setIfInBounds na (.string (s.extract fs i))=cs3 at HP
             go_loopg [12] (s.size - (i+1)) (fun g s12 wx=>W3=wx∧∃ j:Nat,i+1≤j∧j≤s.size∧g=s.size - j∧s12=.int .i64 j∧Hid (∀ q,i≤q→q < j→f (bt s q)≠0))
             case atStart=>exact ⟨rfl,i+1,Nat.le_refl _,by omega,rfl,by first | rfl | simp,hide (fun q h1 h2=>by
               obtain rfl:q=i:=by omega
               rw [HXX.out];exact HY0.out)⟩
             case round =>
               obtain ⟨rfl,j,hij,hj,rfl,rfl,HJ⟩:=hrel
               have hnew:∀ (hjd:j < s.size→f (bt s j)=0),FdI f s w nn (na+1) j j cs3 W3:=fun hjd=>by
                 refine ⟨HP.out.1,HP.out.2.1,HP.out.2.2.1,HP.out.2.2.2,?_,fun h=>⟨hjd h,Or.inr (HJ.out (j - 1) (by omega) (by omega))⟩,fun q h1 h2=>absurd h2 (by omega)⟩
                 have h1:stF f s fs:=HI.out.hd (by omega)
                 have h2:=cF_yes h1
                 rw [cF_flat (show fs+1≤j by omega) (fun q h3 h4 h5=>?_),h2,← HI.out.na]
                 rcases Nat.lt_or_ge q i with h6 | h6
                 · rcases h5.2 with h7 | h7
                   · omega
                   · exact h7 (HI.out.in' (q - 1) (by omega) (by omega))
                 · exact HJ.out q h6 h4 h5.1
               have HN:=hide hnew
               clear hx hx128 hxz hnew
               by_cases hjn:j < s.size
               · have hjz:(j:Int) < (s.size:Int):=by omega
                 have hx:(s[j]'hjn).toNat=bt s j:=bt_get s j hjn
                 have hx128:=HA.out.2 j
                 have hTx:=HT3.out (bt s j) (by omega)
                 obtain ⟨y2,hy⟩:∃ y:Int,f (bt s j)=y:=⟨_,rfl⟩
                 rw [hy] at hTx
                 obtain ⟨x2,hxx⟩:∃ x,bt s j=x:=⟨_,rfl⟩
                 rw [hxx] at hx hx128 hTx hy
                 have hxz:(x2:Int) < 256:=by omega
                 have hxz2':x2 < 256:=by omega
                 have hfx:f (bt s j)=y2:=by rw [hxx];exact hy
                 have HX2:=hide hfx
                 clear hxx hy hfx
                 by_cases hy0:y2=0
                 · have hz2:(y2 != 0)=false:=by simp [hy0]
                   have HY2:=hide hy0
                   clear hy0
                   go_wp2
                   go_roundg (s.size - j)
                   case measure=>omega
                   case rel=>exact ⟨na+1,j,j,cs3,by simp,rfl,rfl,Nat.le_refl _,hj,rfl,hide (HN.out (fun _=>by rw [HX2.out,HY2.out]))⟩
                 · have hz2:(y2 != 0)=true:=by simp [hy0]
                   have HY2:=hide hy0
                   clear hy0
                   go_wp2
                   go_roundg (s.size - (j+1))
                   case measure=>omega
                   case rel=>exact ⟨rfl,j+1,by omega,by omega,rfl,by first | rfl | simp,hide (fun q h1 h2=>by
                     rcases Nat.lt_or_ge q j with h3 | h3
                     · exact HJ.out q h1 h3
                     · obtain rfl:q=j:=by omega
                       rw [HX2.out];exact HY2.out)⟩
               · obtain rfl:j=s.size:=by omega
                 have hjz:¬ ((s.size:Int) < (s.size:Int)):=by omega
                 go_wp2
                 go_roundg (s.size - s.size)
                 case measure=>omega
                 case rel=>exact ⟨na+1,s.size,s.size,cs3,by simp,rfl,rfl,Nat.le_refl _,Nat.le_refl _,rfl,hide (HN.out (fun h=>absurd h (by omega)))⟩
         · obtain rfl:i=s.size:=by omega
           have hiz:¬ ((s.size:Int) < (s.size:Int)):=by omega
           by_cases hfl:fs < s.size
           · have hflz:(fs:Int) < (s.size:Int):=by omega
             have hna:=HI.out.lt hfl HCS.out
             obtain ⟨x0,hx0⟩:=HI.out.st na hna
             have hnext:wr.cell? ⟨w.heap.size,na,none⟩=some (.string x0):=HI.out.bk.cell na hx0
             have hfr:∀ q,wr.frozen? ⟨w.heap.size,q,none⟩=false:=fun q=>HI.out.bk.free q
             have hdz:(na:Int) < (nn:Int):=by omega
             have hdz0:(0:Int)≤(na:Int):=by omega
             have c1:(0:Int)≤(fs:Int):=by omega
             have c2:(fs:Int)≤(s.size:Int):=by omega
             clear hx0
             go_wp2
             have hput:=HI.out.put hna (s.extract fs s.size)
             go_ret
             refine ⟨⟨nn,rfl,fun h=>?_⟩,hput.2.2.2⟩
             obtain ⟨x',hx'⟩:=hput.2.2.1 0 h
             exact ⟨x',hput.1.cell 0 hx'⟩
           · obtain rfl:fs=s.size:=by omega
             go_wp2
             go_ret
             refine ⟨⟨nn,rfl,fun h=>?_⟩,HI.out.bl⟩
             obtain ⟨x',hx'⟩:=HI.out.st 0 h
             exact ⟨x',HI.out.bk.cell 0 hx'⟩
end
end Go.Proofs.YtifkpibjeamfkaaGreatFmt
