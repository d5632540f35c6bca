/-
  The reference's VersionOk.
  The reference's WhyOk, Toolchain, DirOk.
-/
import Derived.Test.YtifkpibjeamfkaaGreatFmtZ35
import Derived.Test.YtifkpibjeamfkaaGreatFmtZ11
import Derived.Test.YtifkpibjeamfkaaGreatFmtZ30
set_option linter.unusedVariables false
set_option linter.unusedSimpArgs false
set_option maxRecDepth 100000
namespace Go.Proofs.YtifkpibjeamfkaaGreatFmt
section
open Go.RowKit Go.Proofs
theorem begins_any' (s p:ByteArray) (w:World) (hs:s.size≤2147483647) (hp:p.size≤1000000) :
   Calls Tryz.prog 30 #[.string s,.string p] w fun e w'=>e=.returned (.bool (decide (p.size≤s.size) && ((s.extract 0 p.size).toList == p.toList)))∧w=w':=by
 by_cases h:p.size≤s.size
 · have h1:(p.size:Int)≤(s.size:Int):=by omega
   have h0:(0:Int)≤(p.size:Int):=by omega
   go_enter Tryz.func30,Tryz.ntmps30
   go_wp2_with fail
   go_ret
   exact ⟨by simp [h],rfl⟩
 · have h1:¬ (p.size:Int)≤(s.size:Int):=by omega
   go_enter Tryz.func30,Tryz.ntmps30
   go_wp2_with fail
   go_ret
   exact ⟨by simp [h],rfl⟩
theorem parts_le {s:ByteArray} {c:Nat} {p:List UInt8} (h:p ∈ parts s c):p.length≤s.size:=by
 have h1:strL p ∈ cutL s c:=by rw [parts_map];exact List.mem_map_of_mem h
 obtain ⟨q,hq,hl⟩:=cutL_str s c _ h1
 have h2:mkS p=q:=by injection hq
 rw [← h2,mkS_size] at hl
 exact hl
def CutR (s:ByteArray) (c:Nat) (w:World) (e:Ending) (w':World):Prop :=
 ∃ N g cap,parts s c=N∧e=.returned (.slice (some ⟨g,0,none⟩) N.length cap)∧N.length≤cap∧Below w.heap.size w w'∧∀ i p,N[i]?=some p→w'.cell? ⟨g,i,none⟩=some (.string (mkS p))
theorem cut_p (c:Nat) (s:ByteArray) (w:World) (hs:s.size≤2147483647):Calls Tryz.prog 29 #[.string s,.int .u8 (c:Int)] w (CutR s c w):=by
 refine (cut_c c s w hs).mono ?_
 rintro e w1 ⟨v,rfl,hb,ho⟩
 have hl:(cutL s c).length=(parts s c).length:=by rw [parts_map,List.length_map]
 have hp:=parts_pos s c
 rcases ho.2 with ⟨_,h2⟩ | ⟨g,cap,cur,rfl,hg,hh,hc1,hc2,hc3,hc4⟩
 · omega
 · refine ⟨parts s c,g,cap,rfl,by rw [hl],by omega,hb,fun i p hip=>?_⟩
   have hlt:=(List.getElem?_eq_some_iff.1 hip).1
   rw [ho.cellAt i (by omega),parts_map,List.getElem?_map,hip]
   rfl
theorem begins_of {s p:ByteArray} (h:(decide (p.size≤s.size) && ((s.extract 0 p.size).toList == p.toList))=true):∃ r,bsl s=bsl p++r:=by
 simp only [Bool.and_eq_true,decide_eq_true_eq,beq_iff_eq] at h
 obtain ⟨h1,h2⟩:=h
 rw [Lib.toList_data,Lib.toList_data,extract_mkS] at h2
 refine ⟨(bsl s).drop p.size,?_⟩
 have h3:(bsl s).take p.size=bsl p:=by
   have:bsl (mkS (((bsl s).drop 0).take (p.size - 0)))=bsl p:=h2
   simpa [bsl,mkS] using this
 rw [← h3,List.take_append_drop]
theorem bsl_mkSv (l:List UInt8):bsl (mkS l)=l:=rfl
theorem head_part {s:ByteArray} {c:Nat} (hc:c < 256) {a:List UInt8} {l:List (List UInt8)} (h:parts s c=a :: l) {x:UInt8} {r:List UInt8} (hs:bsl s=x :: r) (hx:x≠UInt8.ofNat c):∃ r',a=x :: r':=by
 have:=parts_join s c hc
 unfold parts at h
 match hp:cutP s c s.size,h with
 | [],h =>
   rw [hp] at this
   simp at h
   rw [h.1,hs] at this
   exact ⟨r,by simpa using this.symm⟩
 | y :: q,h =>
   rw [hp] at this
   simp at h
   rw [h.1,hs] at this
   match a,this with
   | [],this=>simp at this;exact absurd this.1 hx
   | z :: a,this=>simp at this;exact ⟨a,by rw [this.1]⟩
theorem letters_all {s:ByteArray} (h:∀ i,i < s.size→letB (bt s i)=true):∀ c ∈ bsl s,97≤c.toNat∧c.toNat≤122:=by
 intro c hc
 obtain ⟨i,hi,rfl⟩:=List.getElem_of_mem hc
 have:=h i (by rw [← bsl_len];exact hi)
 rw [bt_ch] at this
 simp only [letB,decide_eq_true_eq,ch,List.getD_eq_getElem?_getD,List.getElem?_eq_getElem hi,Option.getD_some] at this
 exact this
theorem ver_of {s:ByteArray} {a r x y z pre:List UInt8} (hs:bsl s=a++pre) (ha:a=118 :: r) (hr:r=x++UInt8.ofNat 46 :: (y++UInt8.ofNat 46 :: z)) (hx:x=[48]∨x=[49]) (hy:DgN y) (hz:DgN z)
   (hp:pre=[]∨∃ l,pre=45 :: l∧0 < l.length∧l.length≤20∧∀ c ∈ l,97≤c.toNat∧c.toNat≤122):VerL (bsl s):=by
 subst ha hr
 rcases hx with rfl | rfl
 · exact ⟨48,y,z,pre,by rw [hs];simp,Or.inl rfl,hy,hz,hp⟩
 · exact ⟨49,y,z,pre,by rw [hs];simp,Or.inr rfl,hy,hz,hp⟩
set_option maxHeartbeats 8000000 in
theorem versionOk_any (s:ByteArray) (w:World) (hs:s.size≤2147483647):Calls Tryz.prog 25 #[.string s] w (SaysB (VerL (bsl s)) w):=by
 have hS:∀ b:Bool,(b=true→VerL (bsl s))→∀ w',Below w.heap.size w w'→SaysB (VerL (bsl s)) w (.returned (.bool b)) w':=fun b h w' h'=>⟨⟨b,rfl,h⟩,h'⟩
 have HS:=hide hS
 clear hS
 go_enter Tryz.func25,Tryz.ntmps25
 go_wp2_with fail
 refine (cut_p 45 s w hs).mono ?_
 rintro e w1 ⟨P,g,cap,hP,rfl,hcap,hb1,hcell⟩
 have HB:=hide hb1
 have hpos:0 < P.length:=hP ▸ parts_pos s 45
 have hle:∀ p ∈ P,p.length≤s.size:=fun p hp=>parts_le (hP ▸ hp)
 have HLE:=hide hle
 clear hb1 hle
 cases hbg:(decide ((⟨#[118]⟩:ByteArray).size≤s.size) && ((s.extract 0 (⟨#[118]⟩:ByteArray).size).toList == (⟨#[118]⟩:ByteArray).toList)) with
 | false =>
   have HBG:=hide hbg
   clear hbg
   by_cases h2:(2:Int) < (P.length:Int)
   · go_wp2_with fail
     go_ret
     exact HS.out false (fun h=>by cases h) _ HB.out
   · go_wp2_with fail
     refine (begins_any' s ⟨#[118]⟩ w1 hs (by decide)).mono ?_
     rintro e w2 ⟨rfl,rfl⟩
     rw [HBG.out]
     go_wp2_with fail
     go_ret
     exact HS.out false (fun h=>by cases h) _ HB.out
 | true =>
   have HBG:=hide hbg
   obtain ⟨r0,hr0⟩:=begins_of hbg
   clear hbg
   rcases P with _ | ⟨a,_ | ⟨b,_ | ⟨c,l⟩⟩⟩
   · simp at hpos
   rotate_left 2
   · have h2:(2:Int) < ((a :: b :: c :: l).length:Int):=by simp;omega
     generalize (a :: b :: c :: l).length=n at h2 hcap ⊢
     clear hcell
     go_wp2_with fail
     go_ret
     exact HS.out false (fun h=>by cases h) _ HB.out
   · skip
     have c0:=hcell 0 a rfl
     obtain ⟨r,hr⟩:=head_part (c:=45) (by decide) hP (by rw [hr0];rfl) (by decide)
     have hal:(mkS a).size=r.length+1:=by rw [mkS_size,hr];rfl
     have has:(mkS a).size≤s.size:=by rw [mkS_size];exact HLE.out a (by simp)
     have hex:bsl ((mkS a).extract 1 (mkS a).size)=r:=by
       rw [extract_mkS,bsl_mkSv,bsl_mkSv,hal,hr];simp
     have hexl:((mkS a).extract 1 (mkS a).size).size≤2147483647:=by rw [ByteArray.size_extract];omega
     have i1:(0:Int)≤1:=by omega
     have i2:(1:Int)≤((mkS a).size:Int):=by omega
     have HR:=hide hr
     have HEX:=hide hex
     have HLE3:=hide (fun p (hp:p ∈ parts ((mkS a).extract 1 (mkS a).size) 46)=>parts_le hp)
     have hel3:((mkS a).extract 1 (mkS a).size).size≤s.size:=by rw [ByteArray.size_extract];omega
     have HS1:=hide (parts_one (c:=45) (by decide) hP)
     clear hcell hP hr hex hal hr0
     simp only [List.length_cons,List.length_nil] at hcap ⊢
     go_wp2_with fail
     refine (begins_any' s ⟨#[118]⟩ w1 hs (by decide)).mono ?_
     rintro e w2 ⟨rfl,rfl⟩
     rw [HBG.out]
     go_wp2_with fail
     refine (cut_p 46 _ _ hexl).mono ?_
     rintro e w3 ⟨N,g3,cap3,hN,rfl,hcap3,hb3,hcell3⟩
     have HB3:=hide (HB.out.trans (hb3.mono HB.out.size))
     clear hb3
     have HC3:=hide hcell3
     have HNN:=hide hN
     clear hcell3 hN
     have hcell3:=HC3.out
     have hN:=HNN.out
     by_cases hn3:N.length=3
     · obtain ⟨x,y,z,rfl⟩:∃ x y z,N=[x,y,z]:=by
         rcases N with _ | ⟨x,_ | ⟨y,_ | ⟨z,_ | ⟨u,l⟩⟩⟩⟩
         · simp at hn3
         · simp at hn3
         · simp at hn3
         · exact ⟨x,y,z,rfl⟩
         · simp at hn3
       have d0:=hcell3 0 x rfl
       have d1:=hcell3 1 y rfl
       have d2:=hcell3 2 z rfl
       have hyl:(mkS y).size≤2147483647:=by rw [mkS_size];exact Nat.le_trans (HLE3.out y (by rw [hN];simp)) (by omega)
       have hzl:(mkS z).size≤2147483647:=by rw [mkS_size];exact Nat.le_trans (HLE3.out z (by rw [hN];simp)) (by omega)
       have HJ:=hide (parts_three (c:=46) (by decide) hN)
       clear hcell3 hN hn3
       have hfin:∀ b0:Bool,(b0=true→x=[48]∨x=[49])→∀ b1 b2:Bool,(b1=true→DgN y)→(b2=true→DgN z)→(b0 && b1 && b2)=true→VerL (bsl s):=by
         intro b0 h0 b1 b2 h1 h2 h3
         simp only [Bool.and_eq_true] at h3
         refine ver_of (a:=a) (x:=x) (y:=y) (z:=z) (pre:=[]) (by rw [HS1.out];simp) HR.out (by rw [← HEX.out];exact HJ.out) (h0 h3.1.1) (h1 h3.1.2) (h2 h3.2) (Or.inl rfl)
       have HF:=hide hfin
       clear hfin
       cases e0:((mkS x).toList == [48]) with
       | true =>
         have HX:=hide (eq_lit e0)
         go_wp2_with fail
         go_fit (numberS_any (mkS y) _ hyl)
         rintro e w4 ⟨⟨b1,rfl,hb1⟩,hw4⟩
         have HB4:=hide (HB3.out.trans (hw4.mono HB3.out.size))
         have q2:=(hw4.cell (World.block_lt_of_cell? _ _ d2)).trans d2
         have H1:=hide hb1
         clear hw4 hb1
         cases b1 with
         | false =>
           go_wp2_with fail
           go_ret
           exact HS.out false (fun h=>by cases h) _ HB4.out
         | true =>
           have H1t:=hide (H1.out rfl)
           go_wp2_with fail
           go_fit (numberS_any (mkS z) _ hzl)
           rintro e w5 ⟨⟨b2,rfl,hb2⟩,hw5⟩
           have HB5:=hide (HB4.out.trans (hw5.mono HB4.out.size))
           have H2:=hide hb2
           clear hw5 hb2
           go_wp2_with fail
           go_ret
           refine HS.out _ (fun h=>HF.out true (fun _=>Or.inl HX.out) true b2 (fun _=>H1t.out) H2.out (by simpa using h)) _ HB5.out
       | false =>
         cases e1:((mkS x).toList == [49]) with
         | true =>
           have HX:=hide (eq_lit e1)
           go_wp2_with fail
           go_fit (numberS_any (mkS y) _ hyl)
           rintro e w4 ⟨⟨b1,rfl,hb1⟩,hw4⟩
           have HB4:=hide (HB3.out.trans (hw4.mono HB3.out.size))
           have q2:=(hw4.cell (World.block_lt_of_cell? _ _ d2)).trans d2
           have H1:=hide hb1
           clear hw4 hb1
           cases b1 with
           | false =>
             go_wp2_with fail
             go_ret
             exact HS.out false (fun h=>by cases h) _ HB4.out
           | true =>
             have H1t:=hide (H1.out rfl)
             go_wp2_with fail
             go_fit (numberS_any (mkS z) _ hzl)
             rintro e w5 ⟨⟨b2,rfl,hb2⟩,hw5⟩
             have HB5:=hide (HB4.out.trans (hw5.mono HB4.out.size))
             have H2:=hide hb2
             clear hw5 hb2
             go_wp2_with fail
             go_ret
             refine HS.out _ (fun h=>HF.out true (fun _=>Or.inr HX.out) true b2 (fun _=>H1t.out) H2.out (by simpa using h)) _ HB5.out
         | false =>
           go_wp2_with fail
           go_ret
           exact HS.out false (fun h=>by cases h) _ HB3.out
     · have hn3':((N.length:Int) == 3)=false:=by simp only [beq_eq_false_iff_ne];omega
       clear hcell3 hN hn3
       generalize N.length=nn at hn3' hcap3 ⊢
       go_wp2_with fail
       go_ret
       exact HS.out false (fun h=>by cases h) _ HB3.out
   · skip
     have c0:=hcell 0 a rfl
     obtain ⟨r,hr⟩:=head_part (c:=45) (by decide) hP (by rw [hr0];rfl) (by decide)
     have hal:(mkS a).size=r.length+1:=by rw [mkS_size,hr];rfl
     have has:(mkS a).size≤s.size:=by rw [mkS_size];exact HLE.out a (by simp)
     have hex:bsl ((mkS a).extract 1 (mkS a).size)=r:=by
       rw [extract_mkS,bsl_mkSv,bsl_mkSv,hal,hr];simp
     have hexl:((mkS a).extract 1 (mkS a).size).size≤2147483647:=by rw [ByteArray.size_extract];omega
     have i1:(0:Int)≤1:=by omega
     have i2:(1:Int)≤((mkS a).size:Int):=by omega
     have HR:=hide hr
     have HEX:=hide hex
     have HLE3:=hide (fun p (hp:p ∈ parts ((mkS a).extract 1 (mkS a).size) 46)=>parts_le hp)
     have hel3:((mkS a).extract 1 (mkS a).size).size≤s.size:=by rw [ByteArray.size_extract];omega
     have c1:=hcell 1 b rfl
     have hbl:(mkS b).size≤s.size:=by rw [mkS_size];exact HLE.out b (by simp)
     have HS2:=hide (parts_two (c:=45) (by decide) hP)
     clear hcell hP hr hex hal hr0
     simp only [List.length_cons,List.length_nil] at hcap ⊢
     go_wp2_with fail
     refine (begins_any' s ⟨#[118]⟩ w1 hs (by decide)).mono ?_
     rintro e w2 ⟨rfl,rfl⟩
     rw [HBG.out]
     go_wp2_with fail
     refine (cut_p 46 _ _ hexl).mono ?_
     rintro e w3 ⟨N,g3,cap3,hN,rfl,hcap3,hb3,hcell3⟩
     have HB3:=hide (HB.out.trans (hb3.mono HB.out.size))
     have q1:=(hb3.cell (World.block_lt_of_cell? _ _ c1)).trans c1
     clear hb3
     have HC3:=hide hcell3
     have HNN:=hide hN
     clear hcell3 hN
     go_wp2_with fail
     go_loopg [5] (mkS b).size (fun k v5 wr=>wr=w3∧∃ j:Nat,j+k=(mkS b).size∧v5=.int .i64 (j:Int)∧Hid (∀ i,i < j→letB (bt (mkS b) i)=true))
     case atStart=>exact ⟨rfl,0,by omega,rfl,hide (fun i h=>by omega)⟩
     case round =>
       obtain ⟨rfl,j,hj,rfl,HN⟩:=hrel
       rcases Nat.lt_or_ge j (mkS b).size with hlt | hge
       · have hget:((mkS b)[j]'hlt).toNat=bt (mkS b) j:=bt_get (mkS b) j hlt
         have hnext:letB (bt (mkS b) j)=true→Hid (∀ i,i < j+1→letB (bt (mkS b) i)=true):=fun h=>hide (fun i hi=>by
           rcases Nat.lt_or_ge i j with h2 | h2
           · exact HN.out i h2
           · obtain rfl:i=j:=by omega
             exact h)
         have HX:=hide hnext
         clear hnext
         rcases hd:letB (bt (mkS b) j) with _ | _
         · have HD:=hide hd
           clear hd
           go_wp2_with fail
           refine (letter_b (bt (mkS b) j) false _ HD.out).mono ?_
           rintro e w4 ⟨rfl,rfl⟩
           go_wp2_with fail
           go_ret
           exact HS.out false (fun h=>by cases h) _ HB3.out
         · have HD:=hide hd
           clear hd
           go_wp2_with fail
           refine (letter_b (bt (mkS b) j) true _ HD.out).mono ?_
           rintro e w4 ⟨rfl,rfl⟩
           go_wp2_with fail
           go_roundg ((mkS b).size - (j+1))
           case measure=>omega
           case rel=>exact ⟨rfl,j+1,by omega,by simp,HX.out HD.out⟩
       · obtain rfl:j=(mkS b).size:=by omega
         have HLT:=hide (letters_all HN.out)
         rcases hbn:(mkS b).size with _ | mb
         · have he:=empty_of_size hbn
           go_wp2_with fail
           go_ret
           exact HS.out false (fun h=>by cases h) _ HB3.out
         · have he:=full_of_size hbn
           have HBN:=hide hbn
           by_cases h20:(20:Int) < (mb:Int)+1
           · go_wp2_with fail
             go_ret
             exact HS.out false (fun h=>by cases h) _ HB3.out
           · have HPRE:=hide (show (UInt8.ofNat 45 :: b:List UInt8)=[]∨∃ l,(UInt8.ofNat 45 :: b:List UInt8)=45 :: l∧0 < l.length∧l.length≤20∧∀ c ∈ l,97≤c.toNat∧c.toNat≤122 from
               Or.inr ⟨b,rfl,by rw [← mkS_size b,HBN.out];omega,by rw [← mkS_size b,HBN.out];omega,HLT.out⟩)
             have hcell3:=HC3.out
             have hN:=HNN.out
             by_cases hn3:N.length=3
             · obtain ⟨x,y,z,rfl⟩:∃ x y z,N=[x,y,z]:=by
                 rcases N with _ | ⟨x,_ | ⟨y,_ | ⟨z,_ | ⟨u,l⟩⟩⟩⟩
                 · simp at hn3
                 · simp at hn3
                 · simp at hn3
                 · exact ⟨x,y,z,rfl⟩
                 · simp at hn3
               have d0:=hcell3 0 x rfl
               have d1:=hcell3 1 y rfl
               have d2:=hcell3 2 z rfl
               have hyl:(mkS y).size≤2147483647:=by rw [mkS_size];exact Nat.le_trans (HLE3.out y (by rw [hN];simp)) (by omega)
               have hzl:(mkS z).size≤2147483647:=by rw [mkS_size];exact Nat.le_trans (HLE3.out z (by rw [hN];simp)) (by omega)
               have HJ:=hide (parts_three (c:=46) (by decide) hN)
               clear hcell3 hN hn3
               have hfin:∀ b0:Bool,(b0=true→x=[48]∨x=[49])→∀ b1 b2:Bool,(b1=true→DgN y)→(b2=true→DgN z)→(b0 && b1 && b2)=true→VerL (bsl s):=by
                 intro b0 h0 b1 b2 h1 h2 h3
                 simp only [Bool.and_eq_true] at h3
                 refine ver_of (a:=a) (x:=x) (y:=y) (z:=z) (pre:=(UInt8.ofNat 45 :: b)) (by rw [HS2.out]) HR.out (by rw [← HEX.out];exact HJ.out) (h0 h3.1.1) (h1 h3.1.2) (h2 h3.2) HPRE.out
               have HF:=hide hfin
               clear hfin
               cases e0:((mkS x).toList == [48]) with
               | true =>
                 have HX:=hide (eq_lit e0)
                 go_wp2_with fail
                 go_fit (numberS_any (mkS y) _ hyl)
                 rintro e w4 ⟨⟨b1,rfl,hb1⟩,hw4⟩
                 have HB4:=hide (HB3.out.trans (hw4.mono HB3.out.size))
                 have q2:=(hw4.cell (World.block_lt_of_cell? _ _ d2)).trans d2
                 have H1:=hide hb1
                 clear hw4 hb1
                 cases b1 with
                 | false =>
                   go_wp2_with fail
                   go_ret
                   exact HS.out false (fun h=>by cases h) _ HB4.out
                 | true =>
                   have H1t:=hide (H1.out rfl)
                   go_wp2_with fail
                   go_fit (numberS_any (mkS z) _ hzl)
                   rintro e w5 ⟨⟨b2,rfl,hb2⟩,hw5⟩
                   have HB5:=hide (HB4.out.trans (hw5.mono HB4.out.size))
                   have H2:=hide hb2
                   clear hw5 hb2
                   go_wp2_with fail
                   go_ret
                   refine HS.out _ (fun h=>HF.out true (fun _=>Or.inl HX.out) true b2 (fun _=>H1t.out) H2.out (by simpa using h)) _ HB5.out
               | false =>
                 cases e1:((mkS x).toList == [49]) with
                 | true =>
                   have HX:=hide (eq_lit e1)
                   go_wp2_with fail
                   go_fit (numberS_any (mkS y) _ hyl)
                   rintro e w4 ⟨⟨b1,rfl,hb1⟩,hw4⟩
                   have HB4:=hide (HB3.out.trans (hw4.mono HB3.out.size))
                   have q2:=(hw4.cell (World.block_lt_of_cell? _ _ d2)).trans d2
                   have H1:=hide hb1
                   clear hw4 hb1
                   cases b1 with
                   | false =>
                     go_wp2_with fail
                     go_ret
                     exact HS.out false (fun h=>by cases h) _ HB4.out
                   | true =>
                     have H1t:=hide (H1.out rfl)
                     go_wp2_with fail
                     go_fit (numberS_any (mkS z) _ hzl)
                     rintro e w5 ⟨⟨b2,rfl,hb2⟩,hw5⟩
                     have HB5:=hide (HB4.out.trans (hw5.mono HB4.out.size))
                     have H2:=hide hb2
                     clear hw5 hb2
                     go_wp2_with fail
                     go_ret
                     refine HS.out _ (fun h=>HF.out true (fun _=>Or.inr HX.out) true b2 (fun _=>H1t.out) H2.out (by simpa using h)) _ HB5.out
                 | false =>
                   go_wp2_with fail
                   go_ret
                   exact HS.out false (fun h=>by cases h) _ HB3.out
             · have hn3':((N.length:Int) == 3)=false:=by simp only [beq_eq_false_iff_ne];omega
               clear hcell3 hN hn3
               generalize N.length=nn at hn3' hcap3 ⊢
               go_wp2_with fail
               go_ret
               exact HS.out false (fun h=>by cases h) _ HB3.out
end
section
open Go.RowKit Go.Proofs
theorem word_chars {p:List UInt8} (h:WordF (mkS p)):p.length≤50∧∀ x ∈ p,wdc x.toNat=true:=by
 have hl:(mkS p).size=p.length:=mkS_size p
 refine ⟨by have:=h.len;omega,fun x hx=>?_⟩
 obtain ⟨i,hi,rfl⟩:=List.getElem_of_mem hx
 have:=h.chars i (by omega)
 rw [bt_ch] at this
 have e:ch (bsl (mkS p)) i=p[i].toNat:=by
   rw [bsl_mkSv]
   simp [ch,List.getD_eq_getElem?_getD,List.getElem?_eq_getElem hi]
 rw [e] at this
 exact this
theorem wdc_bd {c:Nat} (h:wdc c=true):(97≤c∧c≤122)∨(48≤c∧c≤57)∨c=46:=by
 simp only [wdc,letB,digB,Bool.or_eq_true,decide_eq_true_eq,beq_iff_eq] at h
 omega
theorem why_of {s:ByteArray} {P:List (List UInt8)} (hP:parts s 32=P) (hn:P.length≤20) (h:∀ p ∈ P,WordF (mkS p)):WhyL (bsl s):=by
 subst hP
 have h1:=parts_len s 32 (by decide) 50 (fun p hp=>(word_chars (h p hp)).1)
 refine ⟨by rw [bsl_len];omega,fun i hi=>?_⟩
 have hm:(bsl s)[i] ∈ bsl s:=List.getElem_mem hi
 have e:ch (bsl s) i=(bsl s)[i].toNat:=by simp [ch,List.getD_eq_getElem?_getD,List.getElem?_eq_getElem hi]
 rw [e]
 rcases parts_mem (c:=32) (by decide) hm with h2 | ⟨p,hp,hx⟩
 · rw [h2];decide
 · have:=wdc_bd ((word_chars (h p hp)).2 _ hx)
   omega
set_option maxHeartbeats 4000000 in
theorem whyOk_any (s:ByteArray) (w:World) (hs:s.size≤2147483647):Calls Tryz.prog 27 #[.string s] w (SaysB (WhyL (bsl s)) w):=by
 have hS:∀ b:Bool,(b=true→WhyL (bsl s))→∀ w',Below w.heap.size w w'→SaysB (WhyL (bsl s)) w (.returned (.bool b)) w':=fun b h w' h'=>⟨⟨b,rfl,h⟩,h'⟩
 have HS:=hide hS
 clear hS
 have HE:=hide (show s.size=0→WhyL (bsl s) from fun h=>by
   have:bsl s=[]:=List.length_eq_zero_iff.1 (by rw [bsl_len];exact h)
   rw [this];exact why_nil)
 go_enter Tryz.func27,Tryz.ntmps27
 go_wp2_with fail
 refine (cut_p 32 s w hs).mono ?_
 rintro e w1 ⟨P,g,cap,hP,rfl,hcap,hb1,hcell⟩
 have HB:=hide hb1
 have HP:=hide hP
 have HC:=hide hcell
 have hle:∀ p ∈ P,p.length≤s.size:=fun p hp=>parts_le (hP ▸ hp)
 have HLE:=hide hle
 have hpl:P.length≤s.size+1:=by
   have:=cutOut_le s 32 s.size
   rw [← hP,parts]
   rw [cutOut_map,List.length_map] at this
   simp;omega
 clear hb1 hcell hP hle
 go_wp2_with fail
 go_loopg [10] P.length (fun k v10 wr=>wr=w1∧∃ j:Nat,j+k=P.length∧v10=.int .i64 (j:Int)∧Hid (∀ p ∈ P.take j,WordF (mkS p)))
 case atStart=>exact ⟨rfl,0,by omega,rfl,hide (by simp)⟩
 case round =>
   obtain ⟨rfl,j,hj,rfl,HN⟩:=hrel
   rcases Nat.lt_or_ge j P.length with hlt | hge
   · have c0:=HC.out j P[j] (List.getElem?_eq_getElem hlt)
     have hpsz:(mkS P[j]).size≤2147483647:=by rw [mkS_size];exact Nat.le_trans (HLE.out _ (List.getElem_mem hlt)) (by omega)
     have HNX:=hide (fun (h:WordF (mkS P[j]))=>take_next hlt HN.out h)
     generalize P[j]=p at c0 hpsz HNX
     have j0:(0:Int)≤(j:Int):=by omega
     have j1:(j:Int) < (P.length:Int):=by omega
     rcases hsz:s.size with _ | m
     · have he:=empty_of_size hsz
       have HEM:=hide (HE.out hsz)
       clear hsz
       go_wp2_with fail
       refine (wordOk_any (mkS p) _ hpsz).mono ?_
       rintro e w2 ⟨⟨b,rfl,hb⟩,rfl⟩
       have HWB:=hide hb
       clear hb
       cases b with
       | false =>
         go_wp2_with fail
         go_ret
         exact HS.out true (fun _=>HEM.out) _ HB.out
       | true =>
         have HWT:=hide (HWB.out rfl)
         go_wp2_with fail
         go_roundg (P.length - (j+1))
         case measure=>omega
         case rel=>exact ⟨rfl,j+1,by omega,by simp,hide (HNX.out HWT.out)⟩
     · have he:=full_of_size hsz
       clear hsz
       go_wp2_with fail
       refine (wordOk_any (mkS p) _ hpsz).mono ?_
       rintro e w2 ⟨⟨b,rfl,hb⟩,rfl⟩
       have HWB:=hide hb
       clear hb
       cases b with
       | false =>
         go_wp2_with fail
         go_ret
         exact HS.out false (fun h=>by cases h) _ HB.out
       | true =>
         have HWT:=hide (HWB.out rfl)
         go_wp2_with fail
         go_roundg (P.length - (j+1))
         case measure=>omega
         case rel=>exact ⟨rfl,j+1,by omega,by simp,hide (HNX.out HWT.out)⟩
   · obtain rfl:j=P.length:=by omega
     have hall:∀ p ∈ P,WordF (mkS p):=by have:=HN.out;rwa [List.take_length] at this
     have HALL:=hide hall
     clear hall
     by_cases h20:(P.length:Int)≤20
     · go_wp2_with fail
       go_ret
       exact HS.out true (fun _=>why_of HP.out (by omega) HALL.out) _ HB.out
     · go_wp2_with fail
       go_ret
       exact HS.out false (fun h=>by cases h) _ HB.out
set_option maxHeartbeats 2000000 in
theorem toolchain_any (s:ByteArray) (w:World) (hs:s.size≤2147483647):Calls Tryz.prog 24 #[.string s] w (SaysB True w):=by
 have hS:∀ b:Bool,SaysB True w (.returned (.bool b)) w:=fun b=>⟨⟨b,rfl,fun _=>trivial⟩,Below.refl _ _⟩
 have HS:=hide hS
 clear hS
 cases h1:(s.toList == [100,101,102,97,117,108,116]) with
 | true =>
   go_enter Tryz.func24,Tryz.ntmps24
   go_wp2_with fail
   go_ret
   exact HS.out _
 | false =>
   cases h2:(s.toList == [103,111,49]) with
   | true =>
     go_enter Tryz.func24,Tryz.ntmps24
     go_wp2_with fail
     go_ret
     exact HS.out _
   | false =>
     go_enter Tryz.func24,Tryz.ntmps24
     go_wp2_with fail
     refine (begins_any' s ⟨#[103,111,49,46]⟩ _ hs (by decide)).mono ?_
     rintro e w2 ⟨rfl,rfl⟩
     generalize (decide ((⟨#[103,111,49,46]⟩:ByteArray).size≤s.size) && ((s.extract 0 (⟨#[103,111,49,46]⟩:ByteArray).size).toList == (⟨#[103,111,49,46]⟩:ByteArray).toList))=b
     go_wp2_with fail
     go_ret
     exact HS.out _
theorem dir_nice {l r:List UInt8} {q:ByteArray} (hp:PathF q) (hl:l=[46,47]∨l=[46,46,47]) (hq:bsl q=r):NiceL (l++r):=by
 have hn:=pathF_nice (p:=r) (by rw [← hq,mkS_bsl];exact hp)
 have h0:ch r 0≠47:=by
   have hparts:=hp.parts
   have hpos:0 < q.size:=by have:=hn.pos;rw [← hq,bsl_len] at this;exact this
   obtain ⟨a,P,hP⟩:∃ a P,parts q 47=a :: P:=by
     have:=parts_pos q 47
     cases h:parts q 47 with
     | nil=>rw [h] at this;simp at this
     | cons a P=>exact ⟨a,P,rfl⟩
   have hm:strL a ∈ cutL q 47:=by rw [parts_map,hP];exact List.mem_map_of_mem (List.mem_cons_self ..)
   obtain ⟨p,n,e1,e2,e3,_⟩:=hparts _ hm
   injection e1 with e1
   have hal:0 < a.length:=by rw [← mkS_size a,e1,e2];omega
   have:=parts_head (c:=47) (by decide) hP hal
   rw [hq] at this
   rw [this]
   rw [← e1,bt_ch,bsl_mkSv] at e3
   simp only [letB,decide_eq_true_eq] at e3
   omega
 have hch:∀ k,k < r.length→wch2 (ch r k)=true:=hn.chars
 have hll:=hp.len
 have hrl:r.length≤100:=by rw [← hq,bsl_len];exact hll
 rcases hl with rfl | rfl
 · refine ⟨by simp,by simp;omega,fun k hk=>?_,fun k hk=>?_⟩
   · match k with
     | 0=>rfl
     | 1=>rfl
     | k+2=>exact hch k (by simpa using hk)
   · match k with
     | 0=>rintro ⟨h1,_⟩;simp [ch] at h1
     | 1 =>
       rintro ⟨_,h2⟩
       exact h0 h2
     | k+2=>exact hn.no2 k (by simp at hk;omega)
 · refine ⟨by simp,by simp;omega,fun k hk=>?_,fun k hk=>?_⟩
   · match k with
     | 0=>rfl
     | 1=>rfl
     | 2=>rfl
     | k+3=>exact hch k (by simpa using hk)
   · match k with
     | 0=>rintro ⟨h1,_⟩;simp [ch] at h1
     | 1=>rintro ⟨h1,_⟩;simp [ch] at h1
     | 2 =>
       rintro ⟨_,h2⟩
       exact h0 h2
     | k+3=>exact hn.no2 k (by simp at hk;omega)
theorem begins_cut {s p:ByteArray} (h:(decide (p.size≤s.size) && ((s.extract 0 p.size).toList == p.toList))=true):p.size≤s.size∧bsl s=bsl p++bsl (s.extract p.size s.size):=by
 obtain ⟨r,hr⟩:=begins_of h
 have h1:p.size≤s.size:=by simp only [Bool.and_eq_true,decide_eq_true_eq] at h;exact h.1
 refine ⟨h1,?_⟩
 rw [extract_mkS,bsl_mkSv,hr]
 have hpl:(bsl p).length=p.size:=bsl_len p
 have hsl:s.size - p.size=r.length:=by
   have:=congrArg List.length hr
   rw [bsl_len,List.length_append,hpl] at this
   omega
 rw [hsl,← hpl]
 simp
def dirB1 (s:ByteArray):Bool:=(decide ((⟨#[46,47]⟩:ByteArray).size≤s.size) && ((s.extract 0 (⟨#[46,47]⟩:ByteArray).size).toList == (⟨#[46,47]⟩:ByteArray).toList))
def dirB2 (s:ByteArray):Bool:=(decide ((⟨#[46,46,47]⟩:ByteArray).size≤s.size) && ((s.extract 0 (⟨#[46,46,47]⟩:ByteArray).size).toList == (⟨#[46,46,47]⟩:ByteArray).toList))
theorem begins_d1 (s:ByteArray) (w:World) (hs:s.size≤2147483647) (b:Bool) (h:dirB1 s=b):Calls Tryz.prog 30 #[.string s,.string ⟨#[46,47]⟩] w fun e w'=>e=.returned (.bool b)∧w=w' :=
 h ▸ begins_any' s ⟨#[46,47]⟩ w hs (by decide)
theorem begins_d2 (s:ByteArray) (w:World) (hs:s.size≤2147483647) (b:Bool) (h:dirB2 s=b):Calls Tryz.prog 30 #[.string s,.string ⟨#[46,46,47]⟩] w fun e w'=>e=.returned (.bool b)∧w=w' :=
 h ▸ begins_any' s ⟨#[46,46,47]⟩ w hs (by decide)
set_option maxHeartbeats 4000000 in
theorem dirOk_any (s:ByteArray) (w:World) (hs:s.size≤2147483647):Calls Tryz.prog 45 #[.string s] w (SaysB (NiceL (bsl s)) w):=by
 have hS:∀ b:Bool,(b=true→NiceL (bsl s))→∀ w',Below w.heap.size w w'→SaysB (NiceL (bsl s)) w (.returned (.bool b)) w':=fun b h w' h'=>⟨⟨b,rfl,h⟩,h'⟩
 have HS:=hide hS
 clear hS
 have tail:∀ (W:World),Below w.heap.size w W→dirB2 s=true→(3:Int)≤(s.size:Int)∧(s.extract 3 s.size).size≤2147483647∧(PathF (s.extract 3 s.size)→NiceL (bsl s)):=by
   intro W hb h2
   obtain ⟨h3,h4⟩:=begins_cut (p:=⟨#[46,46,47]⟩) h2
   have h3':3≤s.size:=h3
   refine ⟨by omega,by rw [ByteArray.size_extract];omega,fun hp=>?_⟩
   rw [h4]
   exact dir_nice hp (Or.inr rfl) rfl
 have HTL:=hide (tail w (Below.refl _ _))
 clear tail
 have i3:(0:Int)≤3:=by omega
 have i2:(0:Int)≤2:=by omega
 cases h1:dirB1 s with
 | true =>
   have HD1:=hide h1
   obtain ⟨k1,k2⟩:=begins_cut (p:=⟨#[46,47]⟩) h1
   have k1':2≤s.size:=k1
   have hsz2:(2:Int)≤(s.size:Int):=by omega
   have hex:(s.extract 2 s.size).size≤2147483647:=by rw [ByteArray.size_extract];omega
   have HF1:=hide (show PathF (s.extract 2 s.size)→NiceL (bsl s) from fun hp=>by rw [k2];exact dir_nice hp (Or.inl rfl) rfl)
   clear h1 k1 k2 k1'
   cases h2:dirB2 s with
   | true =>
     have HD2:=hide h2
     obtain ⟨t1,t2,t3⟩:=HTL.out h2
     have HT3:=hide t3
     clear h2 t3
     go_enter Tryz.func45,Tryz.ntmps45
     go_wp2_with fail
     refine (begins_d1 s _ hs true HD1.out).mono ?_
     rintro e w1 ⟨rfl,rfl⟩
     go_wp2_with fail
     refine (pathOk_any _ _ hex).mono ?_
     rintro e w2 ⟨⟨b,rfl,hb⟩,hw2⟩
     have HB:=hide hb
     have HW2:=hide hw2
     clear hb hw2
     cases b with
     | true =>
       have HBt:=hide (HB.out rfl)
       go_wp2_with fail
       go_ret
       exact HS.out true (fun _=>HF1.out HBt.out) _ HW2.out
     | false =>
       go_wp2_with fail
       refine (begins_d2 s _ hs true HD2.out).mono ?_
       rintro e w3 ⟨rfl,rfl⟩
       go_wp2_with fail
       refine (pathOk_any _ _ t2).mono ?_
       rintro e w4 ⟨⟨b,rfl,hb⟩,hw4⟩
       have HB4:=hide hb
       have HW4:=hide (HW2.out.trans (hw4.mono HW2.out.size))
       clear hb hw4
       go_wp2_with fail
       go_ret
       exact HS.out _ (fun h=>HT3.out (HB4.out h)) _ HW4.out
   | false =>
     have HD2:=hide h2
     clear h2
     go_enter Tryz.func45,Tryz.ntmps45
     go_wp2_with fail
     refine (begins_d1 s _ hs true HD1.out).mono ?_
     rintro e w1 ⟨rfl,rfl⟩
     go_wp2_with fail
     refine (pathOk_any _ _ hex).mono ?_
     rintro e w2 ⟨⟨b,rfl,hb⟩,hw2⟩
     have HB:=hide hb
     have HW2:=hide hw2
     clear hb hw2
     cases b with
     | true =>
       have HBt:=hide (HB.out rfl)
       go_wp2_with fail
       go_ret
       exact HS.out true (fun _=>HF1.out HBt.out) _ HW2.out
     | false =>
       go_wp2_with fail
       refine (begins_d2 s _ hs false HD2.out).mono ?_
       rintro e w3 ⟨rfl,rfl⟩
       go_wp2_with fail
       go_ret
       exact HS.out false (fun h=>by cases h) _ HW2.out
 | false =>
   have HD1:=hide h1
   clear h1
   cases h2:dirB2 s with
   | true =>
     have HD2:=hide h2
     obtain ⟨t1,t2,t3⟩:=HTL.out h2
     have HT3:=hide t3
     clear h2 t3
     go_enter Tryz.func45,Tryz.ntmps45
     go_wp2_with fail
     refine (begins_d1 s _ hs false HD1.out).mono ?_
     rintro e w1 ⟨rfl,rfl⟩
     go_wp2_with fail
     refine (begins_d2 s _ hs true HD2.out).mono ?_
     rintro e w3 ⟨rfl,rfl⟩
     go_wp2_with fail
     refine (pathOk_any _ _ t2).mono ?_
     rintro e w4 ⟨⟨b,rfl,hb⟩,hw4⟩
     have HB4:=hide hb
     have HW4:=hide hw4
     clear hb hw4
     go_wp2_with fail
     go_ret
     exact HS.out _ (fun h=>HT3.out (HB4.out h)) _ HW4.out
   | false =>
     have HD2:=hide h2
     clear h2
     go_enter Tryz.func45,Tryz.ntmps45
     go_wp2_with fail
     refine (begins_d1 s _ hs false HD1.out).mono ?_
     rintro e w1 ⟨rfl,rfl⟩
     go_wp2_with fail
     refine (begins_d2 s _ hs false HD2.out).mono ?_
     rintro e w3 ⟨rfl,rfl⟩
     go_wp2_with fail
     go_ret
     exact HS.out false (fun h=>by cases h) _ (Below.refl _ _)
end
end Go.Proofs.YtifkpibjeamfkaaGreatFmt
