/-
  isIndirect and parseDeprecation at any comments.
-/
import Derived.Test.YtifkpibjeamfkaaGreatFmtZ37
import Derived.Test.YtifkpibjeamfkaaGreatFmtZ36
set_option linter.unusedVariables false
set_option linter.unusedSimpArgs false
set_option maxRecDepth 100000
namespace Go.Proofs.YtifkpibjeamfkaaGreatFmt
section
open Go.RowKit Go.Proofs
theorem hasPre_len {l p:List UInt8} (h:Lib.hasPrefix l p=true):p.length≤l.length:=by
 have h1:p.isPrefixOf l=true:=h
 rw [List.isPrefixOf_iff_prefix] at h1
 exact h1.length_le
def BoolR (w:World) (e:Ending) (w':World):Prop:=(∃ b,e=.returned (.bool b))∧Below w.heap.size w w'
set_option maxHeartbeats 4000000 in
theorem indirect_any (N:Nat) (L:Nat) (w:World) (f:Nat→Int) (hL:ComsAt N w L 136) (hf:OpTab w 4 f) (hfb:∀ c,0≤f c∧f c < 256) (hg:4 < w.heap.size) :
   Calls Tryz.prog 77 #[.pointer (some ⟨L,0,none⟩)] w (BoolR w):=by
 unfold BoolR
 obtain ⟨cs,bv,sv,c1,c2,hb,h0,h1,hc1,hc2⟩:=hL
 have HF:=hide (And.intro hf hfb)
 rcases Nat.eq_zero_or_pos c2.length with h2 | h2
 · obtain ⟨sa,sc,e⟩:=owns_any hc2.cm.1
   rw [h2] at e
   subst e
   have x1:w.cell? ⟨L,1,none⟩=some (.slice sa 0 sc):=hb.cell 1 h1
   clear hb h0 h1 hc1 hc2 hf hfb
   go_enter Tryz.func77,Tryz.ntmps77
   go_wp2_with fail
   go_ret
   exact ⟨⟨_,rfl⟩,Below.refl _ _⟩
 · obtain ⟨n,hn⟩:∃ n,c2.length=n+1:=⟨c2.length - 1,by omega⟩
   have hr:=hc2.cm.1
   rw [hn] at hr
   obtain ⟨sg,sc,rfl⟩:=owns_form hr
   obtain ⟨x,hx⟩:∃ c,c2[0]?=some c:=⟨_,List.getElem?_eq_getElem h2⟩
   obtain ⟨y0,y1,y2,y3,y4⟩:=hc2.cm.cells hn hx
   have hasc:=txt_asc (hc2.cm.2 x (List.mem_of_getElem? hx))
   have x1:w.cell? ⟨L,1,none⟩=some (.slice (some ⟨sg,0,none⟩) (n+1) sc):=hb.cell 1 h1
   have z1:((n:Int)+1 == 0)=false:=by simp only [beq_eq_false_iff_ne];omega
   have z2:(0:Int) < (n:Int)+1:=by omega
   simp only [Nat.zero_mul,Nat.zero_add] at y3
   have HA:=hide hasc
   clear hb h0 h1 hc1 hc2 hf hfb hasc hn hr hx h2 y0 y1 y2 y4
   go_enter Tryz.func77,Tryz.ntmps77
   go_wp2_with fail
   refine (trimPrefix_any _ _ _).mono ?_
   rintro e w1 ⟨rfl,rfl⟩
   have hta:=trimPre_asc (⟨#[47,47]⟩:ByteArray).data.toList HA.out
   generalize mkS (Lib.trimPrefix (mkS x.txt).data.toList (⟨#[47,47]⟩:ByteArray).data.toList)=ts at hta ⊢
   have HTA:=hide hta
   clear hta
   go_wp2_with fail
   go_fit (fields_any ts w f HTA.out HF.out.1 HF.out.2 hg)
   rintro e w2 ⟨⟨k,rfl,hk⟩,hb2⟩
   have HB2:=hide hb2
   clear hb2 x1 y3
   rcases k with _ | k
   · clear hk
     go_wp2_with fail
     go_ret
     exact ⟨⟨_,rfl⟩,HB2.out⟩
   · obtain ⟨u,hu⟩:=hk (by omega)
     clear hk
     rcases k with _ | k
     · go_wp2_with fail
       all_goals go_ret
       all_goals exact ⟨⟨_,rfl⟩,HB2.out⟩
     · have w1':(((k+1+1:Nat):Int) == 1)=false:=by simp only [beq_eq_false_iff_ne];omega
       have w2':(1:Int) < ((k+1+1:Nat):Int):=by omega
       have w3':(0:Int) < ((k+1+1:Nat):Int):=by omega
       obtain ⟨m,hm⟩:∃ m,k+1+1=m:=⟨_,rfl⟩
       rw [hm] at w1' w2' w3' ⊢
       go_wp2_with fail
       all_goals go_ret
       all_goals exact ⟨⟨_,rfl⟩,HB2.out⟩
def DpR (w:World) (e:Ending) (w':World):Prop:=(e=.returned (.slice none 0 0)∨∃ g y,e=.returned (.slice (some ⟨g,0,none⟩) 2 2)∧w'.cell? ⟨g,1,none⟩=some (.string y))∧Below w.heap.size w w'
set_option maxHeartbeats 8000000 in
theorem deprecated_any (s:ByteArray) (w:World) (hs:s.size≤140737488355328):Calls Tryz.prog 105 #[.string s] w (DpR w):=by
 have hfin:∀ x y:ByteArray,DpR w (.returned (.slice (some ⟨w.heap.size,0,none⟩) 2 2)) (w.alloc (Obj.cells #[.string x,.string y] 9)).drew:=fun x y=>by
   have hb:=(Blk.new w 9 #[.string x,.string y]).drew
   exact ⟨Or.inr ⟨_,y,rfl,hb.cell 1 rfl⟩,((Below.refl _ w).alloc (Nat.le_refl _) _).drew⟩
 have hnil:DpR w (.returned (.slice none 0 0)) w:=⟨Or.inl rfl,Below.refl _ _⟩
 have HFIN:=hide hfin
 have HNIL:=hide hnil
 clear hfin hnil
 go_enter Tryz.func105,Tryz.ntmps105
 go_wp2_with fail
 go_loopg [3] s.size (fun k v3 wr=>wr=w∧∃ i:Nat,i+k=s.size∧v3=.int .i64 (i:Int))
 case atStart=>exact ⟨rfl,0,by omega,rfl⟩
 case round =>
   obtain ⟨rfl,i,hik,rfl⟩:=hrel
   rcases Nat.lt_or_ge i s.size with hlt | hge
   · have a1:(i:Int) < (s.size:Int):=by omega
     have a0:(0:Int)≤(i:Int):=by omega
     have hgi:(s[i]'hlt).toNat=bt s i:=bt_get s i hlt
     obtain ⟨bp,hbp⟩:∃ b,b=Lib.hasPrefix s.data.toList (⟨#[68,101,112,114,101,99,97,116,101,100,58]⟩:ByteArray).data.toList:=⟨_,rfl⟩
     have HBP:=hide hbp
     clear hbp
     by_cases hA:i=0∧bp=true
     · obtain ⟨hi0,hbt⟩:=hA
       have z0:((i:Int) == 0)=true:=by rw [hi0];rfl
       have hl11:11≤s.size:=by
         have h1:=hasPre_len (HBP.out.symm.trans hbt)
         have h2:s.data.toList.length=s.size:=bsl_len s
         have h3:(⟨#[68,101,112,114,101,99,97,116,101,100,58]⟩:ByteArray).data.toList.length=11:=rfl
         omega
       have HBT:=hide hbt
       clear hbt hi0
       go_upto_block 2 with (go_at_call 104;refine (hasPrefix_any _ _ _).mono ?_;rintro e w' ⟨rfl,rfl⟩;rw [← HBP.out,HBT.out])
       · skip
         go_cut [4] from 48 to 59 (fun s4 wx=>wr=wx∧∃ q:Nat,q≤s.size∧s4=.int .i64 (q:Int))
         case first =>
           go_wp2_with fail
           go_loopg [4] (s.size - 11) (fun k s4 wx=>wr=wx∧∃ q:Nat,q≤s.size∧k=s.size - q∧s4=.int .i64 (q:Int))
           case atStart=>exact ⟨rfl,11,by omega,rfl,by first | rfl | simp⟩
           case round =>
             obtain ⟨rfl,q,hq,rfl,rfl⟩:=hrel
             by_cases hqn:q < s.size
             · have hqz:(q:Int) < (s.size:Int):=by omega
               have hq0:(0:Int)≤(q:Int):=by omega
               have hgq:(s[q]'hqn).toNat=bt s q:=bt_get s q hqn
               by_cases h32:bt s q=32
               · have z32:((bt s q:Int) == 32)=true:=by rw [h32];rfl
                 clear h32
                 go_wp2_with fail
                 go_roundg (s.size - (q+1))
                 case measure=>omega
                 case rel=>exact ⟨rfl,q+1,by omega,rfl,by first | rfl | simp⟩
               · have z32:((bt s q:Int) == 32)=false:=by simp only [beq_eq_false_iff_ne];omega
                 clear h32
                 go_wp2_with fail
                 go_meet
                 exact ⟨rfl,q,hq,rfl⟩
             · obtain rfl:q=s.size:=by omega
               have hqz:¬ ((s.size:Int) < (s.size:Int)):=by omega
               go_wp2_with fail
               go_meet
               exact ⟨rfl,s.size,Nat.le_refl _,rfl⟩
         case rest =>
           obtain ⟨rfl,q0,hq0,rfl⟩:=hcut
           go_upto_block 4 with fail
           go_cut [5] from 61 to 87 (fun s5 wx=>wr=wx∧∃ q:Nat,q0≤q∧q≤s.size∧s5=.int .i64 (q:Int))
           case first =>
             go_wp2_with fail
             go_loopg [5] (s.size - q0) (fun k s5 wx=>wr=wx∧∃ q:Nat,q0≤q∧q≤s.size∧k=s.size - q∧s5=.int .i64 (q:Int))
             case atStart=>exact ⟨rfl,q0,Nat.le_refl _,hq0,rfl,rfl⟩
             case round =>
               obtain ⟨rfl,q,hqq,hq,rfl,rfl⟩:=hrel
               by_cases hqn:q < s.size
               · have hqz:(q:Int) < (s.size:Int):=by omega
                 have hq0':(0:Int)≤(q:Int):=by omega
                 have hgq:(s[q]'hqn).toNat=bt s q:=bt_get s q hqn
                 have hw2:IntKind.i64.wrap ((q:Int)+2)=(q:Int)+2:=Go.IntWalk.i64_in _ (by omega)
                 have hw1:IntKind.i64.wrap ((q:Int)+1)=(q:Int)+1:=Go.IntWalk.i64_in _ (by omega)
                 by_cases h2:(q:Int)+2≤(s.size:Int)
                 · have hq1:q+1 < s.size:=by omega
                   have hgq1:(s[q+1]'hq1).toNat=bt s (q+1):=bt_get s (q+1) hq1
                   have hq1z:(q:Int)+1 < (s.size:Int):=by omega
                   have hq1p:(0:Int)≤(q:Int)+1:=by omega
                   have hq1t:((q:Int)+1).toNat=q+1:=by omega
                   by_cases h10:bt s q=10
                   · have z10:((bt s q:Int) == 10)=true:=by rw [h10];rfl
                     clear h10
                     by_cases h11:bt s (q+1)=10
                     · have z11:((bt s (q+1):Int) == 10)=true:=by rw [h11];rfl
                       clear h11
                       go_wp2_with fail
                       go_meet
                       exact ⟨rfl,q,hqq,hq,rfl⟩
                     · have z11:((bt s (q+1):Int) == 10)=false:=by simp only [beq_eq_false_iff_ne];omega
                       clear h11
                       go_wp2_with fail
                       go_roundg (s.size - (q+1))
                       case measure=>omega
                       case rel=>exact ⟨rfl,q+1,by omega,by omega,rfl,by first | rfl | simp⟩
                   · have z10:((bt s q:Int) == 10)=false:=by simp only [beq_eq_false_iff_ne];omega
                     clear h10
                     go_wp2_with fail
                     go_roundg (s.size - (q+1))
                     case measure=>omega
                     case rel=>exact ⟨rfl,q+1,by omega,by omega,rfl,by first | rfl | simp⟩
                 · go_wp2_with fail
                   go_roundg (s.size - (q+1))
                   case measure=>omega
                   case rel=>exact ⟨rfl,q+1,by omega,by omega,rfl,by first | rfl | simp⟩
               · obtain rfl:q=s.size:=by omega
                 have hqz:¬ ((s.size:Int) < (s.size:Int)):=by omega
                 go_wp2_with fail
                 go_meet
                 exact ⟨rfl,s.size,hqq,Nat.le_refl _,rfl⟩
           case rest =>
             obtain ⟨rfl,q1,hq1,hq2,rfl⟩:=hcut
             have c1:(q0:Int)≤(q1:Int):=by omega
             have c2:(q1:Int)≤(s.size:Int):=by omega
             have c3:(0:Int)≤(q0:Int):=by omega
             have c4:(i:Int)≤(s.size:Int):=by omega
             go_wp2_with fail
             go_region_held3 (fun w'=>True) (trivial) (fail)
             all_goals go_wp2_with fail
             all_goals go_ret
             all_goals exact HFIN.out _ _
     · have hA':i=0→bp=false:=fun h=>by
         cases hb:bp
         · rfl
         · exact absurd ⟨h,hb⟩ hA
       clear hA
       have hw2:IntKind.i64.wrap ((i:Int)+2)=(i:Int)+2:=Go.IntWalk.i64_in _ (by omega)
       have hw1:IntKind.i64.wrap ((i:Int)+1)=(i:Int)+1:=Go.IntWalk.i64_in _ (by omega)
       have hz0:∃ z,((i:Int) == 0)=z∧(z=true→bp=false):=⟨_,rfl,fun h=>hA' (by simpa using h)⟩
       obtain ⟨z,z0,hzb⟩:=hz0
       have HZB:=hide hzb
       clear hzb hA'
       rcases z with _ | _
       · skip
         by_cases h2:(i:Int)+2≤(s.size:Int)
         · have hi1:i+1 < s.size:=by omega
           have hgi1:(s[i+1]'hi1).toNat=bt s (i+1):=bt_get s (i+1) hi1
           have hi1z:(i:Int)+1 < (s.size:Int):=by omega
           have hi1p:(0:Int)≤(i:Int)+1:=by omega
           have hi1t:((i:Int)+1).toNat=i+1:=by omega
           have hi2t:((i:Int)+2).toNat=i+2:=by omega
           have hi2p:(0:Int)≤(i:Int)+2:=by omega
           by_cases h10:bt s i=10
           · have z10:((bt s i:Int) == 10)=true:=by rw [h10];rfl
             clear h10
             by_cases h11:bt s (i+1)=10
             · have z11:((bt s (i+1):Int) == 10)=true:=by rw [h11];rfl
               clear h11
               obtain ⟨b2,hb2⟩:∃ b,b=Lib.hasPrefix (s.extract (i+2) s.size).data.toList (⟨#[68,101,112,114,101,99,97,116,101,100,58]⟩:ByteArray).data.toList:=⟨_,rfl⟩
               have HB2:=hide hb2
               clear hb2
               rcases b2 with _ | _
               · skip
                 go_wp2_with (go_at_call 104;refine (hasPrefix_any _ _ _).mono ?_;rintro e w' ⟨rfl,rfl⟩;first | rw [← HBP.out,HZB.out rfl] | rw [← HB2.out])
                 go_roundg (s.size - (i+1))
                 case measure=>omega
                 case rel=>exact ⟨rfl,i+1,by omega,by first | rfl | simp⟩
               · have hl13:i+13≤s.size:=by
                   have h1:=hasPre_len HB2.out.symm
                   have h2:(s.extract (i+2) s.size).data.toList.length=s.size - (i+2):=by
                     have:=bsl_len (s.extract (i+2) s.size)
                     unfold bsl at this
                     rw [this];simp
                   have h3:(⟨#[68,101,112,114,101,99,97,116,101,100,58]⟩:ByteArray).data.toList.length=11:=rfl
                   omega
                 have hw13:IntKind.i64.wrap ((i:Int)+2+11)=(i:Int)+2+11:=Go.IntWalk.i64_in _ (by omega)
                 go_upto_block 2 with (go_at_call 104;refine (hasPrefix_any _ _ _).mono ?_;rintro e w' ⟨rfl,rfl⟩;first | rw [← HBP.out,HZB.out rfl] | rw [← HB2.out])
                 go_cut [4] from 48 to 59 (fun s4 wx=>wr=wx∧∃ q:Nat,q≤s.size∧s4=.int .i64 (q:Int))
                 case first =>
                   go_wp2_with fail
                   go_loopg [4] (s.size - (i+13)) (fun k s4 wx=>wr=wx∧∃ q:Nat,q≤s.size∧k=s.size - q∧s4=.int .i64 (q:Int))
                   case atStart=>exact ⟨rfl,i+13,by omega,rfl,congrArg (Value.int .i64) (by omega)⟩
                   case round =>
                     obtain ⟨rfl,q,hq,rfl,rfl⟩:=hrel
                     by_cases hqn:q < s.size
                     · have hqz:(q:Int) < (s.size:Int):=by omega
                       have hq0:(0:Int)≤(q:Int):=by omega
                       have hgq:(s[q]'hqn).toNat=bt s q:=bt_get s q hqn
                       by_cases h32:bt s q=32
                       · have z32:((bt s q:Int) == 32)=true:=by rw [h32];rfl
                         clear h32
                         go_wp2_with fail
                         go_roundg (s.size - (q+1))
                         case measure=>omega
                         case rel=>exact ⟨rfl,q+1,by omega,rfl,by first | rfl | simp⟩
                       · have z32:((bt s q:Int) == 32)=false:=by simp only [beq_eq_false_iff_ne];omega
                         clear h32
                         go_wp2_with fail
                         go_meet
                         exact ⟨rfl,q,hq,rfl⟩
                     · obtain rfl:q=s.size:=by omega
                       have hqz:¬ ((s.size:Int) < (s.size:Int)):=by omega
                       go_wp2_with fail
                       go_meet
                       exact ⟨rfl,s.size,Nat.le_refl _,rfl⟩
                 case rest =>
                   obtain ⟨rfl,q0,hq0,rfl⟩:=hcut
                   go_upto_block 4 with fail
                   go_cut [5] from 61 to 87 (fun s5 wx=>wr=wx∧∃ q:Nat,q0≤q∧q≤s.size∧s5=.int .i64 (q:Int))
                   case first =>
                     go_wp2_with fail
                     go_loopg [5] (s.size - q0) (fun k s5 wx=>wr=wx∧∃ q:Nat,q0≤q∧q≤s.size∧k=s.size - q∧s5=.int .i64 (q:Int))
                     case atStart=>exact ⟨rfl,q0,Nat.le_refl _,hq0,rfl,rfl⟩
                     case round =>
                       obtain ⟨rfl,q,hqq,hq,rfl,rfl⟩:=hrel
                       by_cases hqn:q < s.size
                       · have hqz:(q:Int) < (s.size:Int):=by omega
                         have hq0':(0:Int)≤(q:Int):=by omega
                         have hgq:(s[q]'hqn).toNat=bt s q:=bt_get s q hqn
                         have hw2:IntKind.i64.wrap ((q:Int)+2)=(q:Int)+2:=Go.IntWalk.i64_in _ (by omega)
                         have hw1:IntKind.i64.wrap ((q:Int)+1)=(q:Int)+1:=Go.IntWalk.i64_in _ (by omega)
                         by_cases h2:(q:Int)+2≤(s.size:Int)
                         · have hq1:q+1 < s.size:=by omega
                           have hgq1:(s[q+1]'hq1).toNat=bt s (q+1):=bt_get s (q+1) hq1
                           have hq1z:(q:Int)+1 < (s.size:Int):=by omega
                           have hq1p:(0:Int)≤(q:Int)+1:=by omega
                           have hq1t:((q:Int)+1).toNat=q+1:=by omega
                           by_cases h10:bt s q=10
                           · have z10:((bt s q:Int) == 10)=true:=by rw [h10];rfl
                             clear h10
                             by_cases h11:bt s (q+1)=10
                             · have z11:((bt s (q+1):Int) == 10)=true:=by rw [h11];rfl
                               clear h11
                               go_wp2_with fail
                               go_meet
                               exact ⟨rfl,q,hqq,hq,rfl⟩
                             · have z11:((bt s (q+1):Int) == 10)=false:=by simp only [beq_eq_false_iff_ne];omega
                               clear h11
                               go_wp2_with fail
                               go_roundg (s.size - (q+1))
                               case measure=>omega
                               case rel=>exact ⟨rfl,q+1,by omega,by omega,rfl,by first | rfl | simp⟩
                           · have z10:((bt s q:Int) == 10)=false:=by simp only [beq_eq_false_iff_ne];omega
                             clear h10
                             go_wp2_with fail
                             go_roundg (s.size - (q+1))
                             case measure=>omega
                             case rel=>exact ⟨rfl,q+1,by omega,by omega,rfl,by first | rfl | simp⟩
                         · go_wp2_with fail
                           go_roundg (s.size - (q+1))
                           case measure=>omega
                           case rel=>exact ⟨rfl,q+1,by omega,by omega,rfl,by first | rfl | simp⟩
                       · obtain rfl:q=s.size:=by omega
                         have hqz:¬ ((s.size:Int) < (s.size:Int)):=by omega
                         go_wp2_with fail
                         go_meet
                         exact ⟨rfl,s.size,hqq,Nat.le_refl _,rfl⟩
                   case rest =>
                     obtain ⟨rfl,q1,hq1,hq2,rfl⟩:=hcut
                     have c1:(q0:Int)≤(q1:Int):=by omega
                     have c2:(q1:Int)≤(s.size:Int):=by omega
                     have c3:(0:Int)≤(q0:Int):=by omega
                     have c4:(i:Int)≤(s.size:Int):=by omega
                     go_wp2_with fail
                     go_region_held3 (fun w'=>True) (trivial) (fail)
                     all_goals go_wp2_with fail
                     all_goals go_ret
                     all_goals exact HFIN.out _ _
             · have z11:((bt s (i+1):Int) == 10)=false:=by simp only [beq_eq_false_iff_ne];omega
               clear h11
               go_wp2_with (go_at_call 104;refine (hasPrefix_any _ _ _).mono ?_;rintro e w' ⟨rfl,rfl⟩;rw [← HBP.out,HZB.out rfl])
               go_roundg (s.size - (i+1))
               case measure=>omega
               case rel=>exact ⟨rfl,i+1,by omega,by first | rfl | simp⟩
           · have z10:((bt s i:Int) == 10)=false:=by simp only [beq_eq_false_iff_ne];omega
             clear h10
             go_wp2_with (go_at_call 104;refine (hasPrefix_any _ _ _).mono ?_;rintro e w' ⟨rfl,rfl⟩;rw [← HBP.out,HZB.out rfl])
             go_roundg (s.size - (i+1))
             case measure=>omega
             case rel=>exact ⟨rfl,i+1,by omega,by first | rfl | simp⟩
         · skip
           go_wp2_with (go_at_call 104;refine (hasPrefix_any _ _ _).mono ?_;rintro e w' ⟨rfl,rfl⟩;rw [← HBP.out,HZB.out rfl])
           go_roundg (s.size - (i+1))
           case measure=>omega
           case rel=>exact ⟨rfl,i+1,by omega,by first | rfl | simp⟩
       · skip
         by_cases h2:(i:Int)+2≤(s.size:Int)
         · have hi1:i+1 < s.size:=by omega
           have hgi1:(s[i+1]'hi1).toNat=bt s (i+1):=bt_get s (i+1) hi1
           have hi1z:(i:Int)+1 < (s.size:Int):=by omega
           have hi1p:(0:Int)≤(i:Int)+1:=by omega
           have hi1t:((i:Int)+1).toNat=i+1:=by omega
           have hi2t:((i:Int)+2).toNat=i+2:=by omega
           have hi2p:(0:Int)≤(i:Int)+2:=by omega
           by_cases h10:bt s i=10
           · have z10:((bt s i:Int) == 10)=true:=by rw [h10];rfl
             clear h10
             by_cases h11:bt s (i+1)=10
             · have z11:((bt s (i+1):Int) == 10)=true:=by rw [h11];rfl
               clear h11
               obtain ⟨b2,hb2⟩:∃ b,b=Lib.hasPrefix (s.extract (i+2) s.size).data.toList (⟨#[68,101,112,114,101,99,97,116,101,100,58]⟩:ByteArray).data.toList:=⟨_,rfl⟩
               have HB2:=hide hb2
               clear hb2
               rcases b2 with _ | _
               · skip
                 go_wp2_with (go_at_call 104;refine (hasPrefix_any _ _ _).mono ?_;rintro e w' ⟨rfl,rfl⟩;first | rw [← HBP.out,HZB.out rfl] | rw [← HB2.out])
                 go_roundg (s.size - (i+1))
                 case measure=>omega
                 case rel=>exact ⟨rfl,i+1,by omega,by first | rfl | simp⟩
               · have hl13:i+13≤s.size:=by
                   have h1:=hasPre_len HB2.out.symm
                   have h2:(s.extract (i+2) s.size).data.toList.length=s.size - (i+2):=by
                     have:=bsl_len (s.extract (i+2) s.size)
                     unfold bsl at this
                     rw [this];simp
                   have h3:(⟨#[68,101,112,114,101,99,97,116,101,100,58]⟩:ByteArray).data.toList.length=11:=rfl
                   omega
                 have hw13:IntKind.i64.wrap ((i:Int)+2+11)=(i:Int)+2+11:=Go.IntWalk.i64_in _ (by omega)
                 go_upto_block 2 with (go_at_call 104;refine (hasPrefix_any _ _ _).mono ?_;rintro e w' ⟨rfl,rfl⟩;first | rw [← HBP.out,HZB.out rfl] | rw [← HB2.out])
                 go_cut [4] from 48 to 59 (fun s4 wx=>wr=wx∧∃ q:Nat,q≤s.size∧s4=.int .i64 (q:Int))
                 case first =>
                   go_wp2_with fail
                   go_loopg [4] (s.size - (i+13)) (fun k s4 wx=>wr=wx∧∃ q:Nat,q≤s.size∧k=s.size - q∧s4=.int .i64 (q:Int))
                   case atStart=>exact ⟨rfl,i+13,by omega,rfl,congrArg (Value.int .i64) (by omega)⟩
                   case round =>
                     obtain ⟨rfl,q,hq,rfl,rfl⟩:=hrel
                     by_cases hqn:q < s.size
                     · have hqz:(q:Int) < (s.size:Int):=by omega
                       have hq0:(0:Int)≤(q:Int):=by omega
                       have hgq:(s[q]'hqn).toNat=bt s q:=bt_get s q hqn
                       by_cases h32:bt s q=32
                       · have z32:((bt s q:Int) == 32)=true:=by rw [h32];rfl
                         clear h32
                         go_wp2_with fail
                         go_roundg (s.size - (q+1))
                         case measure=>omega
                         case rel=>exact ⟨rfl,q+1,by omega,rfl,by first | rfl | simp⟩
                       · have z32:((bt s q:Int) == 32)=false:=by simp only [beq_eq_false_iff_ne];omega
                         clear h32
                         go_wp2_with fail
                         go_meet
                         exact ⟨rfl,q,hq,rfl⟩
                     · obtain rfl:q=s.size:=by omega
                       have hqz:¬ ((s.size:Int) < (s.size:Int)):=by omega
                       go_wp2_with fail
                       go_meet
                       exact ⟨rfl,s.size,Nat.le_refl _,rfl⟩
                 case rest =>
                   obtain ⟨rfl,q0,hq0,rfl⟩:=hcut
                   go_upto_block 4 with fail
                   go_cut [5] from 61 to 87 (fun s5 wx=>wr=wx∧∃ q:Nat,q0≤q∧q≤s.size∧s5=.int .i64 (q:Int))
                   case first =>
                     go_wp2_with fail
                     go_loopg [5] (s.size - q0) (fun k s5 wx=>wr=wx∧∃ q:Nat,q0≤q∧q≤s.size∧k=s.size - q∧s5=.int .i64 (q:Int))
                     case atStart=>exact ⟨rfl,q0,Nat.le_refl _,hq0,rfl,rfl⟩
                     case round =>
                       obtain ⟨rfl,q,hqq,hq,rfl,rfl⟩:=hrel
                       by_cases hqn:q < s.size
                       · have hqz:(q:Int) < (s.size:Int):=by omega
                         have hq0':(0:Int)≤(q:Int):=by omega
                         have hgq:(s[q]'hqn).toNat=bt s q:=bt_get s q hqn
                         have hw2:IntKind.i64.wrap ((q:Int)+2)=(q:Int)+2:=Go.IntWalk.i64_in _ (by omega)
                         have hw1:IntKind.i64.wrap ((q:Int)+1)=(q:Int)+1:=Go.IntWalk.i64_in _ (by omega)
                         by_cases h2:(q:Int)+2≤(s.size:Int)
                         · have hq1:q+1 < s.size:=by omega
                           have hgq1:(s[q+1]'hq1).toNat=bt s (q+1):=bt_get s (q+1) hq1
                           have hq1z:(q:Int)+1 < (s.size:Int):=by omega
                           have hq1p:(0:Int)≤(q:Int)+1:=by omega
                           have hq1t:((q:Int)+1).toNat=q+1:=by omega
                           by_cases h10:bt s q=10
                           · have z10:((bt s q:Int) == 10)=true:=by rw [h10];rfl
                             clear h10
                             by_cases h11:bt s (q+1)=10
                             · have z11:((bt s (q+1):Int) == 10)=true:=by rw [h11];rfl
                               clear h11
                               go_wp2_with fail
                               go_meet
                               exact ⟨rfl,q,hqq,hq,rfl⟩
                             · have z11:((bt s (q+1):Int) == 10)=false:=by simp only [beq_eq_false_iff_ne];omega
                               clear h11
                               go_wp2_with fail
                               go_roundg (s.size - (q+1))
                               case measure=>omega
                               case rel=>exact ⟨rfl,q+1,by omega,by omega,rfl,by first | rfl | simp⟩
                           · have z10:((bt s q:Int) == 10)=false:=by simp only [beq_eq_false_iff_ne];omega
                             clear h10
                             go_wp2_with fail
                             go_roundg (s.size - (q+1))
                             case measure=>omega
                             case rel=>exact ⟨rfl,q+1,by omega,by omega,rfl,by first | rfl | simp⟩
                         · go_wp2_with fail
                           go_roundg (s.size - (q+1))
                           case measure=>omega
                           case rel=>exact ⟨rfl,q+1,by omega,by omega,rfl,by first | rfl | simp⟩
                       · obtain rfl:q=s.size:=by omega
                         have hqz:¬ ((s.size:Int) < (s.size:Int)):=by omega
                         go_wp2_with fail
                         go_meet
                         exact ⟨rfl,s.size,hqq,Nat.le_refl _,rfl⟩
                   case rest =>
                     obtain ⟨rfl,q1,hq1,hq2,rfl⟩:=hcut
                     have c1:(q0:Int)≤(q1:Int):=by omega
                     have c2:(q1:Int)≤(s.size:Int):=by omega
                     have c3:(0:Int)≤(q0:Int):=by omega
                     have c4:(i:Int)≤(s.size:Int):=by omega
                     go_wp2_with fail
                     go_region_held3 (fun w'=>True) (trivial) (fail)
                     all_goals go_wp2_with fail
                     all_goals go_ret
                     all_goals exact HFIN.out _ _
             · have z11:((bt s (i+1):Int) == 10)=false:=by simp only [beq_eq_false_iff_ne];omega
               clear h11
               go_wp2_with (go_at_call 104;refine (hasPrefix_any _ _ _).mono ?_;rintro e w' ⟨rfl,rfl⟩;rw [← HBP.out,HZB.out rfl])
               go_roundg (s.size - (i+1))
               case measure=>omega
               case rel=>exact ⟨rfl,i+1,by omega,by first | rfl | simp⟩
           · have z10:((bt s i:Int) == 10)=false:=by simp only [beq_eq_false_iff_ne];omega
             clear h10
             go_wp2_with (go_at_call 104;refine (hasPrefix_any _ _ _).mono ?_;rintro e w' ⟨rfl,rfl⟩;rw [← HBP.out,HZB.out rfl])
             go_roundg (s.size - (i+1))
             case measure=>omega
             case rel=>exact ⟨rfl,i+1,by omega,by first | rfl | simp⟩
         · skip
           go_wp2_with (go_at_call 104;refine (hasPrefix_any _ _ _).mono ?_;rintro e w' ⟨rfl,rfl⟩;rw [← HBP.out,HZB.out rfl])
           go_roundg (s.size - (i+1))
           case measure=>omega
           case rel=>exact ⟨rfl,i+1,by omega,by first | rfl | simp⟩
   · obtain rfl:i=s.size:=by omega
     have a1:¬ ((s.size:Int) < (s.size:Int)):=by omega
     go_wp2_with fail
     go_ret
     exact HNIL.out
set_option maxHeartbeats 2000000 in
theorem deprecation_any (N:Nat) (L:Nat) (b:Option Nat) (w:World) (f:Nat→Int) (hL:ComsAt N w L 136) (hX:∀ X,b=some X→ComsAt N w X 143) (hf:OpTab w 4 f) (hg:4 < w.heap.size) :
   Calls Tryz.prog 70 #[.pointer (b.map fun X=>⟨X,0,none⟩),.pointer (some ⟨L,0,none⟩)] w fun e w'=>(∃ s,e=.returned (.string s))∧Below w.heap.size w w':=by
 have HD:=hide (directive_any N L b w f hL hX hf hg)
 have hq0:∀ (w:World),(binOp .eql 26 (.slice none 0 0) (.slice none 0 0)).run Tryz.prog w=.ok (.bool true) w:=fun w=>by kernel_rfl
 have hq1:∀ (g:Nat) (w:World),(binOp .eql 26 (.slice (some ⟨g,0,none⟩) 2 2) (.slice none 0 0)).run Tryz.prog w=.ok (.bool false) w:=fun g w=>by kernel_rfl
 clear hL hX hf
 go_enter Tryz.func70,Tryz.ntmps70
 go_wp2_with fail
 refine HD.out.mono ?_
 rintro e w1 ⟨⟨s,rfl,hs⟩,hb1⟩
 have HB1:=hide hb1
 clear hb1
 go_wp2_with fail
 refine (deprecated_any s w1 hs).mono ?_
 rintro e w2 ⟨he,hb2⟩
 have HB2:=hide (HB1.out.trans (hb2.mono HB1.out.size))
 clear hb2
 rcases he with rfl | ⟨g,y,rfl,hy⟩
 · go_wp2_with fail
   go_ret
   exact ⟨⟨_,rfl⟩,HB2.out⟩
 · go_wp2_with fail
   go_ret
   exact ⟨⟨_,rfl⟩,HB2.out⟩
end
end Go.Proofs.YtifkpibjeamfkaaGreatFmt
