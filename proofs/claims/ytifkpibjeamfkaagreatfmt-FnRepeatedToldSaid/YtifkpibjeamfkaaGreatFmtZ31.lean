/-
  matchGoVersion, matchToolchain, IsDirectoryPath at any text: they return.
  parseVersion under the fixer that fixes nothing; parseVersionInterval at one version and at two.
-/
import Derived.Test.YtifkpibjeamfkaaGreatFmtZ30
import Derived.Test.YtifkpibjeamfkaaGreatFmtZ10
import Derived.Deep.CutBlock
import Derived.Test.YtifkpibjeamfkaaGreatFmtZ15
set_option linter.unusedVariables false
set_option linter.unusedSimpArgs false
set_option maxRecDepth 100000
namespace Go.Proofs.YtifkpibjeamfkaaGreatFmt
section
open Go.RowKit Go.Proofs
def NumR (s:ByteArray) (w:World) (e:Ending) (w':World):Prop:=(∃ k:Nat,e=.returned (.int .i64 (k:Int))∧k≤s.size)∧w=w'
set_option maxHeartbeats 2000000 in
theorem number_any (s:ByteArray) (w:World) (hs:s.size≤1000000):Calls Tryz.prog 101 #[.string s] w (NumR s w):=by
 have h00:NumR s w (.returned (.int .i64 0)) w:=⟨⟨0,rfl,Nat.zero_le _⟩,rfl⟩
 rcases hn:s.size with _ | n
 · have he:=empty_of_size hn
   clear hn hs
   have H:=hide h00
   clear h00
   go_enter Tryz.func101,Tryz.ntmps101
   go_wp2_with fail
   go_ret
   exact H.out
 · have he:s.toList.isEmpty=false:=full_of_size hn
   have h0:0 < s.size:=by omega
   have hg:(s[0]'h0).toNat=bt s 0:=bt_get s 0 h0
   have h11:NumR s w (.returned (.int .i64 1)) w:=⟨⟨1,rfl,h0⟩,rfl⟩
   have H:=hide (And.intro h00 h11)
   have HN:=hide hn
   clear h00 h11 hn
   by_cases h1:(bt s 0:Int) < 48
   · go_enter Tryz.func101,Tryz.ntmps101
     go_wp2_with fail
     go_ret
     exact H.out.1
   · by_cases h2:(57:Int) < (bt s 0:Int)
     · go_enter Tryz.func101,Tryz.ntmps101
       go_wp2_with fail
       go_ret
       exact H.out.1
     · by_cases h48:bt s 0=48
       · have z48:((bt s 0:Int) == 48)=true:=by rw [h48];rfl
         clear h48
         go_enter Tryz.func101,Tryz.ntmps101
         go_wp2_with fail
         go_ret
         exact H.out.2
       · have z48:((bt s 0:Int) == 48)=false:=by simp only [beq_eq_false_iff_ne];omega
         clear h48
         go_enter Tryz.func101,Tryz.ntmps101
         go_wp2_with fail
         go_loopg [3] s.size (fun k s3 wx=>wx=w∧∃ q:Nat,q≤s.size∧k=s.size - q∧s3=.int .i64 (q:Int))
         case atStart=>exact ⟨rfl,0,by omega,rfl,rfl⟩
         case round =>
           obtain ⟨rfl,q,hq,rfl,rfl⟩:=hrel
           by_cases hqn:q < s.size
           · have hqz:(q:Int) < (s.size:Int):=by omega
             have hq0:(0:Int)≤(q:Int):=by omega
             have hgq:(s[q]'hqn).toNat=bt s q:=bt_get s q hqn
             by_cases h3:(48:Int)≤(bt s q:Int)
             · by_cases h4:(bt s q:Int)≤57
               · go_wp2_with fail
                 go_roundg (s.size - (q+1))
                 case measure=>omega
                 case rel=>exact ⟨rfl,q+1,by omega,rfl,by first | rfl | simp⟩
               · go_wp2_with fail
                 go_ret
                 exact ⟨⟨q,rfl,hq⟩,rfl⟩
             · go_wp2_with fail
               go_ret
               exact ⟨⟨q,rfl,hq⟩,rfl⟩
           · obtain rfl:q=s.size:=by omega
             have hqz:¬ ((s.size:Int) < (s.size:Int)):=by omega
             go_wp2_with fail
             go_ret
             exact ⟨⟨s.size,rfl,Nat.le_refl _⟩,rfl⟩
def BlR (w:World) (e:Ending) (w':World):Prop:=(∃ b,e=.returned (.bool b))∧w=w'
set_option maxHeartbeats 8000000 in
theorem matchGo_any (s:ByteArray) (wr:World) (hs:s.size≤1000000):Calls Tryz.prog 67 #[.string s] wr (BlR wr):=by
 rcases hn:s.size with _ | n
 · have he:=empty_of_size hn
   clear hn hs
   go_enter Tryz.func67,Tryz.ntmps67
   go_wp2_with fail
   go_ret
   exact ⟨⟨_,rfl⟩,rfl⟩
 · have he:s.toList.isEmpty=false:=full_of_size hn
   have h0:0 < s.size:=by omega
   have hg:(s[0]'h0).toNat=bt s 0:=bt_get s 0 h0
   clear hn
   rcases z48:((bt s 0:Int) == 48) with _ | _
   · go_enter Tryz.func67,Tryz.ntmps67
     go_wp2_with fail
     refine (number_any s wr hs).mono ?_
     rintro e w1 ⟨⟨k,rfl,hk⟩,rfl⟩
     by_cases hk0:k=0
     · subst hk0
       go_wp2_with fail
       go_ret
       exact ⟨⟨_,rfl⟩,rfl⟩
     · have zk0:((k:Int) == 0)=false:=by simp only [beq_eq_false_iff_ne];omega
       by_cases hks:k=s.size
       · subst hks
         clear hk0
         go_wp2_with fail
         go_ret
         exact ⟨⟨_,rfl⟩,rfl⟩
       · have zks:((k:Int) == (s.size:Int))=false:=by simp only [beq_eq_false_iff_ne];omega
         have hkl:k < s.size:=by omega
         have hgk:(s[k]'hkl).toNat=bt s k:=bt_get s k hkl
         have hkz:(k:Int) < (s.size:Int):=by omega
         have hkp:(0:Int)≤(k:Int):=by omega
         clear hk0 hks
         rcases z46:((bt s k:Int) != 46) with _ | _
         · have hw1:IntKind.i64.wrap ((k:Int)+1)=(k:Int)+1:=Go.IntWalk.i64_in _ (by omega)
           have hk1p:(0:Int)≤(k:Int)+1:=by omega
           have hk1z:(k:Int)+1≤(s.size:Int):=by omega
           have hk1t:((k:Int)+1).toNat=k+1:=by omega
           go_wp2_with fail
           obtain ⟨s2,hs2⟩:∃ t,t=s.extract (k+1) s.size:=⟨_,rfl⟩
           rw [← hs2]
           have hs2l:s2.size≤1000000:=by rw [hs2];simp [ByteArray.size_extract];omega
           clear hs2
           refine (number_any s2 _ hs2l).mono ?_
           rintro e w1 ⟨⟨k2,rfl,hk2⟩,rfl⟩
           by_cases hk20:k2=0
           · subst hk20
             go_wp2_with fail
             go_ret
             exact ⟨⟨_,rfl⟩,rfl⟩
           · have zk20:((k2:Int) == 0)=false:=by simp only [beq_eq_false_iff_ne];omega
             have hk2z:(k2:Int)≤(s2.size:Int):=by omega
             have hk2p:(0:Int)≤(k2:Int):=by omega
             clear hk20
             go_upto_region 10 with fail
             go_cut [0] from 37 to 39 (fun s0 wx=>wr=wx∧∃ t:ByteArray,t.size≤1000000∧s0=.string t)
             case first =>
               go_wp2_with fail
               go_meet
               exact ⟨rfl,_,(by simp [ByteArray.size_extract];omega),rfl⟩
             case rest =>
               obtain ⟨rfl,s3,hs3l,rfl⟩:=hcut
               by_cases hone:(1:Int) < (s3.size:Int)
               · have h30:0 < s3.size:=by omega
                 have hg3:(s3[0]'h30).toNat=bt s3 0:=bt_get s3 0 h30
                 rcases z463:((bt s3 0:Int) == 46) with _ | _
                 · go_upto_region 16 with fail
                   obtain ⟨t,ht⟩:∃ t,t=s3:=⟨_,rfl⟩
                   rw [← ht]
                   have htl:t.size≤1000000:=by rw [ht];first | exact hs3l | (simp [ByteArray.size_extract];omega)
                   clear ht
                   rcases Nat.eq_zero_or_pos t.size with ht0 | ht0
                   · have hte:=empty_of_size ht0
                     clear ht0
                     go_wp2_with fail
                     go_ret
                     exact ⟨⟨_,rfl⟩,rfl⟩
                   · have hte:t.toList.isEmpty=false:=full_of_size (n:=t.size - 1) (by omega)
                     go_upto_block 0 with fail
                     go_cut [4] from 59 to 76 (fun s4 wx=>wr=wx∧∃ q:Nat,q≤t.size∧s4=.int .i64 (q:Int))
                     case first =>
                       go_wp2_with fail
                       go_loopg [4] t.size (fun k s4 wx=>wr=wx∧∃ q:Nat,q≤t.size∧k=t.size - q∧s4=.int .i64 (q:Int))
                       case atStart=>exact ⟨rfl,0,by omega,rfl,rfl⟩
                       case round =>
                         obtain ⟨rfl,q,hq,rfl,rfl⟩:=hrel
                         by_cases hqn:q < t.size
                         · have hqz:(q:Int) < (t.size:Int):=by omega
                           have hq0:(0:Int)≤(q:Int):=by omega
                           have hgq:(t[q]'hqn).toNat=bt t q:=bt_get t q hqn
                           by_cases h1:(97:Int)≤(bt t q:Int)
                           · by_cases h2:(bt t q:Int)≤122
                             · go_wp2_with fail
                               go_roundg (t.size - (q+1))
                               case measure=>omega
                               case rel=>exact ⟨rfl,q+1,by omega,rfl,by first | rfl | simp⟩
                             · go_wp2_with fail
                               go_meet
                               exact ⟨rfl,q,hq,rfl⟩
                           · go_wp2_with fail
                             go_meet
                             exact ⟨rfl,q,hq,rfl⟩
                         · obtain rfl:q=t.size:=by omega
                           have hqz:¬ ((t.size:Int) < (t.size:Int)):=by omega
                           go_wp2_with fail
                           go_meet
                           exact ⟨rfl,t.size,Nat.le_refl _,rfl⟩
                     case rest =>
                       obtain ⟨rfl,q0,hq0,rfl⟩:=hcut
                       go_upto_block 2 with fail
                       go_cut [5] from 78 to 95 (fun s5 wx=>wr=wx∧∃ q:Nat,q≤t.size∧s5=.int .i64 (q:Int))
                       case first =>
                         go_wp2_with fail
                         go_loopg [5] (t.size - q0) (fun k s5 wx=>wr=wx∧∃ q:Nat,q≤t.size∧k=t.size - q∧s5=.int .i64 (q:Int))
                         case atStart=>exact ⟨rfl,q0,hq0,rfl,rfl⟩
                         case round =>
                           obtain ⟨rfl,q,hq,rfl,rfl⟩:=hrel
                           by_cases hqn:q < t.size
                           · have hqz:(q:Int) < (t.size:Int):=by omega
                             have hq0':(0:Int)≤(q:Int):=by omega
                             have hgq:(t[q]'hqn).toNat=bt t q:=bt_get t q hqn
                             by_cases h1:(48:Int)≤(bt t q:Int)
                             · by_cases h2:(bt t q:Int)≤57
                               · go_wp2_with fail
                                 go_roundg (t.size - (q+1))
                                 case measure=>omega
                                 case rel=>exact ⟨rfl,q+1,by omega,rfl,by first | rfl | simp⟩
                               · go_wp2_with fail
                                 go_meet
                                 exact ⟨rfl,q,hq,rfl⟩
                             · go_wp2_with fail
                               go_meet
                               exact ⟨rfl,q,hq,rfl⟩
                           · obtain rfl:q=t.size:=by omega
                             have hqz:¬ ((t.size:Int) < (t.size:Int)):=by omega
                             go_wp2_with fail
                             go_meet
                             exact ⟨rfl,t.size,Nat.le_refl _,rfl⟩
                       case rest =>
                         obtain ⟨rfl,q1,hq1,rfl⟩:=hcut
                         go_wp2_with fail
                         all_goals go_ret
                         all_goals exact ⟨⟨_,rfl⟩,rfl⟩
                 · have h13:(1:Int)≤(s3.size:Int):=by omega
                   go_upto_region 12 with fail
                   go_cut [3] from 48 to 50 (fun s3' wx=>wr=wx∧∃ q:Nat,q≤s3.size - 1∧s3'=.int .i64 (q:Int))
                   case first =>
                     go_wp2_with fail
                     obtain ⟨s4,hs4⟩:∃ t,t=s3.extract 1 s3.size:=⟨_,rfl⟩
                     have hs4l:s4.size=s3.size - 1:=by rw [hs4];simp [ByteArray.size_extract]
                     rw [← hs4]
                     clear hs4
                     refine (number_any s4 _ (by omega)).mono ?_
                     rintro e w1 ⟨⟨k4,rfl,hk4⟩,rfl⟩
                     go_wp2_with fail
                     go_meet
                     exact ⟨rfl,k4,by omega,rfl⟩
                   case rest =>
                     obtain ⟨rfl,k4,hk4,rfl⟩:=hcut
                     by_cases hk40:k4=0
                     · subst hk40
                       go_wp2_with fail
                       go_ret
                       exact ⟨⟨_,rfl⟩,rfl⟩
                     · have zk40:((k4:Int) == 0)=false:=by simp only [beq_eq_false_iff_ne];omega
                       have hw4:IntKind.i64.wrap (1+(k4:Int))=1+(k4:Int):=Go.IntWalk.i64_in _ (by omega)
                       have hk4p:(0:Int)≤1+(k4:Int):=by omega
                       have hk4z:1+(k4:Int)≤(s3.size:Int):=by omega
                       have hk4t:(1+(k4:Int)).toNat=1+k4:=by omega
                       clear hk40
                       go_upto_region 16 with fail
                       obtain ⟨t,ht⟩:∃ t,t=s3.extract (1+k4) s3.size:=⟨_,rfl⟩
                       rw [← ht]
                       have htl:t.size≤1000000:=by rw [ht];first | exact hs3l | (simp [ByteArray.size_extract];omega)
                       clear ht
                       rcases Nat.eq_zero_or_pos t.size with ht0 | ht0
                       · have hte:=empty_of_size ht0
                         clear ht0
                         go_wp2_with fail
                         go_ret
                         exact ⟨⟨_,rfl⟩,rfl⟩
                       · have hte:t.toList.isEmpty=false:=full_of_size (n:=t.size - 1) (by omega)
                         go_upto_block 0 with fail
                         go_cut [4] from 59 to 76 (fun s4 wx=>wr=wx∧∃ q:Nat,q≤t.size∧s4=.int .i64 (q:Int))
                         case first =>
                           go_wp2_with fail
                           go_loopg [4] t.size (fun k s4 wx=>wr=wx∧∃ q:Nat,q≤t.size∧k=t.size - q∧s4=.int .i64 (q:Int))
                           case atStart=>exact ⟨rfl,0,by omega,rfl,rfl⟩
                           case round =>
                             obtain ⟨rfl,q,hq,rfl,rfl⟩:=hrel
                             by_cases hqn:q < t.size
                             · have hqz:(q:Int) < (t.size:Int):=by omega
                               have hq0:(0:Int)≤(q:Int):=by omega
                               have hgq:(t[q]'hqn).toNat=bt t q:=bt_get t q hqn
                               by_cases h1:(97:Int)≤(bt t q:Int)
                               · by_cases h2:(bt t q:Int)≤122
                                 · go_wp2_with fail
                                   go_roundg (t.size - (q+1))
                                   case measure=>omega
                                   case rel=>exact ⟨rfl,q+1,by omega,rfl,by first | rfl | simp⟩
                                 · go_wp2_with fail
                                   go_meet
                                   exact ⟨rfl,q,hq,rfl⟩
                               · go_wp2_with fail
                                 go_meet
                                 exact ⟨rfl,q,hq,rfl⟩
                             · obtain rfl:q=t.size:=by omega
                               have hqz:¬ ((t.size:Int) < (t.size:Int)):=by omega
                               go_wp2_with fail
                               go_meet
                               exact ⟨rfl,t.size,Nat.le_refl _,rfl⟩
                         case rest =>
                           obtain ⟨rfl,q0,hq0,rfl⟩:=hcut
                           go_upto_block 2 with fail
                           go_cut [5] from 78 to 95 (fun s5 wx=>wr=wx∧∃ q:Nat,q≤t.size∧s5=.int .i64 (q:Int))
                           case first =>
                             go_wp2_with fail
                             go_loopg [5] (t.size - q0) (fun k s5 wx=>wr=wx∧∃ q:Nat,q≤t.size∧k=t.size - q∧s5=.int .i64 (q:Int))
                             case atStart=>exact ⟨rfl,q0,hq0,rfl,rfl⟩
                             case round =>
                               obtain ⟨rfl,q,hq,rfl,rfl⟩:=hrel
                               by_cases hqn:q < t.size
                               · have hqz:(q:Int) < (t.size:Int):=by omega
                                 have hq0':(0:Int)≤(q:Int):=by omega
                                 have hgq:(t[q]'hqn).toNat=bt t q:=bt_get t q hqn
                                 by_cases h1:(48:Int)≤(bt t q:Int)
                                 · by_cases h2:(bt t q:Int)≤57
                                   · go_wp2_with fail
                                     go_roundg (t.size - (q+1))
                                     case measure=>omega
                                     case rel=>exact ⟨rfl,q+1,by omega,rfl,by first | rfl | simp⟩
                                   · go_wp2_with fail
                                     go_meet
                                     exact ⟨rfl,q,hq,rfl⟩
                                 · go_wp2_with fail
                                   go_meet
                                   exact ⟨rfl,q,hq,rfl⟩
                               · obtain rfl:q=t.size:=by omega
                                 have hqz:¬ ((t.size:Int) < (t.size:Int)):=by omega
                                 go_wp2_with fail
                                 go_meet
                                 exact ⟨rfl,t.size,Nat.le_refl _,rfl⟩
                           case rest =>
                             obtain ⟨rfl,q1,hq1,rfl⟩:=hcut
                             go_wp2_with fail
                             all_goals go_ret
                             all_goals exact ⟨⟨_,rfl⟩,rfl⟩
               · go_upto_region 16 with fail
                 obtain ⟨t,ht⟩:∃ t,t=s3:=⟨_,rfl⟩
                 rw [← ht]
                 have htl:t.size≤1000000:=by rw [ht];first | exact hs3l | (simp [ByteArray.size_extract];omega)
                 clear ht
                 rcases Nat.eq_zero_or_pos t.size with ht0 | ht0
                 · have hte:=empty_of_size ht0
                   clear ht0
                   go_wp2_with fail
                   go_ret
                   exact ⟨⟨_,rfl⟩,rfl⟩
                 · have hte:t.toList.isEmpty=false:=full_of_size (n:=t.size - 1) (by omega)
                   go_upto_block 0 with fail
                   go_cut [4] from 59 to 76 (fun s4 wx=>wr=wx∧∃ q:Nat,q≤t.size∧s4=.int .i64 (q:Int))
                   case first =>
                     go_wp2_with fail
                     go_loopg [4] t.size (fun k s4 wx=>wr=wx∧∃ q:Nat,q≤t.size∧k=t.size - q∧s4=.int .i64 (q:Int))
                     case atStart=>exact ⟨rfl,0,by omega,rfl,rfl⟩
                     case round =>
                       obtain ⟨rfl,q,hq,rfl,rfl⟩:=hrel
                       by_cases hqn:q < t.size
                       · have hqz:(q:Int) < (t.size:Int):=by omega
                         have hq0:(0:Int)≤(q:Int):=by omega
                         have hgq:(t[q]'hqn).toNat=bt t q:=bt_get t q hqn
                         by_cases h1:(97:Int)≤(bt t q:Int)
                         · by_cases h2:(bt t q:Int)≤122
                           · go_wp2_with fail
                             go_roundg (t.size - (q+1))
                             case measure=>omega
                             case rel=>exact ⟨rfl,q+1,by omega,rfl,by first | rfl | simp⟩
                           · go_wp2_with fail
                             go_meet
                             exact ⟨rfl,q,hq,rfl⟩
                         · go_wp2_with fail
                           go_meet
                           exact ⟨rfl,q,hq,rfl⟩
                       · obtain rfl:q=t.size:=by omega
                         have hqz:¬ ((t.size:Int) < (t.size:Int)):=by omega
                         go_wp2_with fail
                         go_meet
                         exact ⟨rfl,t.size,Nat.le_refl _,rfl⟩
                   case rest =>
                     obtain ⟨rfl,q0,hq0,rfl⟩:=hcut
                     go_upto_block 2 with fail
                     go_cut [5] from 78 to 95 (fun s5 wx=>wr=wx∧∃ q:Nat,q≤t.size∧s5=.int .i64 (q:Int))
                     case first =>
                       go_wp2_with fail
                       go_loopg [5] (t.size - q0) (fun k s5 wx=>wr=wx∧∃ q:Nat,q≤t.size∧k=t.size - q∧s5=.int .i64 (q:Int))
                       case atStart=>exact ⟨rfl,q0,hq0,rfl,rfl⟩
                       case round =>
                         obtain ⟨rfl,q,hq,rfl,rfl⟩:=hrel
                         by_cases hqn:q < t.size
                         · have hqz:(q:Int) < (t.size:Int):=by omega
                           have hq0':(0:Int)≤(q:Int):=by omega
                           have hgq:(t[q]'hqn).toNat=bt t q:=bt_get t q hqn
                           by_cases h1:(48:Int)≤(bt t q:Int)
                           · by_cases h2:(bt t q:Int)≤57
                             · go_wp2_with fail
                               go_roundg (t.size - (q+1))
                               case measure=>omega
                               case rel=>exact ⟨rfl,q+1,by omega,rfl,by first | rfl | simp⟩
                             · go_wp2_with fail
                               go_meet
                               exact ⟨rfl,q,hq,rfl⟩
                           · go_wp2_with fail
                             go_meet
                             exact ⟨rfl,q,hq,rfl⟩
                         · obtain rfl:q=t.size:=by omega
                           have hqz:¬ ((t.size:Int) < (t.size:Int)):=by omega
                           go_wp2_with fail
                           go_meet
                           exact ⟨rfl,t.size,Nat.le_refl _,rfl⟩
                     case rest =>
                       obtain ⟨rfl,q1,hq1,rfl⟩:=hcut
                       go_wp2_with fail
                       all_goals go_ret
                       all_goals exact ⟨⟨_,rfl⟩,rfl⟩
         · go_wp2_with fail
           go_ret
           exact ⟨⟨_,rfl⟩,rfl⟩
   · go_enter Tryz.func67,Tryz.ntmps67
     go_wp2_with fail
     go_ret
     exact ⟨⟨_,rfl⟩,rfl⟩
set_option maxHeartbeats 2000000 in
theorem matchTool_any (s:ByteArray) (wr:World):Calls Tryz.prog 69 #[.string s] wr (BlR wr):=by
 go_enter Tryz.func69,Tryz.ntmps69
 go_wp2_with ((go_fit (hasPrefix_any s _ wr));rintro e w1 ⟨rfl,rfl⟩)
 all_goals go_ret
 all_goals exact ⟨⟨_,rfl⟩,rfl⟩
set_option maxHeartbeats 8000000 in
theorem isDir_any (s:ByteArray) (wr:World):Calls Tryz.prog 119 #[.string s] wr (BlR wr):=by
 go_enter Tryz.func119,Tryz.ntmps119
 go_wp2_with ((go_fit (hasPrefix_any s _ wr));rintro e w1 ⟨rfl,rfl⟩)
 all_goals go_ret
 all_goals exact ⟨⟨_,rfl⟩,rfl⟩
end
section
open Go.RowKit Go.Proofs
abbrev dfR:Value:=.func (.func 80) #[] #[]
set_option maxHeartbeats 1000000 in
theorem dontFix_any (p v:ByteArray) (w:World) :
   Calls Tryz.prog 80 #[.string p,.string v] w fun e w'=>e=.returned (.tuple #[.string v,.nilIface])∧w=w':=by
 go_enter Tryz.func80,Tryz.ntmps80
 go_wp2_with fail
 go_returns
 exact ⟨rfl,rfl⟩
set_option maxHeartbeats 1000000 in
theorem parseVersion_fix (R i:Nat) (cur:Array Value) (verb path s:ByteArray) (w:World) (hR:Blk w R 9 cur) (hi:cur[i]?=some (.string s)) (hp:Plain s) (hpr:PrTab w) (hP:0 < w.heap.size) :
   Calls Tryz.prog 74 #[.string verb,.string path,.pointer (some ⟨R,i,none⟩),dfR] w fun e w'=>e=.returned (.tuple #[.string s,.nilIface])∧Below w.heap.size w w':=by
 have hq:∀ (w:World),(binOp .neq 75 dfR .nilFunc).run Tryz.prog w=.ok (.bool true) w:=fun w=>by kernel_rfl
 have HR:=hide hR
 have HI:=hide hi
 have HC:=hide (parseString_plain R i cur s w hR hi hp.chars hp.first hp.len hp.mq hpr hP)
 clear hR hi hpr
 go_enter Tryz.func74,Tryz.ntmps74
 go_wp2_with fail
 refine HC.out.mono ?_
 rintro e w1 ⟨rfl,hb⟩
 have bR:=HR.out.kept (Kp.of_below (X:=fun _=>False) hb) (fun h=>h)
 have c3:w1.cell? ⟨R,i,none⟩=some (.string s):=bR.cell i HI.out
 have f3:w1.frozen? ⟨R,i,none⟩=false:=bR.free i
 have s3:w1.setCell ⟨R,i,none⟩ (.string s)=w1:=bR.set_id HI.out
 have HB:=hide hb
 clear hb bR
 go_wp2_with fail
 refine (dontFix_any _ _ _).mono ?_
 rintro e w2 ⟨rfl,rfl⟩
 go_wp2_with fail
 go_returns
 exact ⟨rfl,HB.out⟩
def IvR (w:World) (A:Nat) (e:Ending) (w':World):Prop:=(∃ x y:ByteArray,e=.returned (.tuple #[.agg #[.string x,.string y],.nilIface]))∧Kp (fun k=>k=A) w w'∧∃ a cap,Blk w' A 26 #[.slice a 0 cap]
theorem iv_out {w w1:World} {A T:Nat} {v0 u0 u1:Value} {x y a:Value} (G:World→Prop) (hA:Blk w1 A 26 #[v0]) (hT:Blk w1 T 110 #[u0,u1]) (hle:w.heap.size≤T) (hb:Below w.heap.size w w1) (hAl:A < w.heap.size)
   (hG:∀ W3,Kp (fun k=>k=A) w W3→Blk W3 A 26 #[a]→W3.cell? ⟨T,0,none⟩=some x→W3.cell? ⟨T,1,none⟩=some y→G W3):G (((w1.setCell ⟨A,0,none⟩ a).setCell ⟨T,0,none⟩ x).setCell ⟨T,1,none⟩ y):=by
 have hne:A≠T:=by omega
 have bT:Blk (((w1.setCell ⟨A,0,none⟩ a).setCell ⟨T,0,none⟩ x).setCell ⟨T,1,none⟩ y) T 110 #[x,y]:=((hT.set_other (a:=⟨A,0,none⟩) (fun e=>hne e.symm) a).set 0 x).set 1 y
 exact hG _ ((((Kp.of_below (X:=fun k=>k=A) hb).set (fun _=>rfl)).set (fun h=>absurd h (Nat.not_lt.2 hle))).set (fun h=>absurd h (Nat.not_lt.2 hle))) (((hA.set 0 a).set_other (a:=⟨T,0,none⟩) hne x).set_other (a:=⟨T,1,none⟩) hne y) (bT.cell 0 rfl) (bT.cell 1 rfl)
theorem mkS_beq (a b:List UInt8):((mkS a).toList == b)=(a == b):=by rw [Lib.toList_data,mkS_list]
set_option maxHeartbeats 2000000 in
theorem interval_1 (A R o cap:Nat) (cur:Array Value) (verb:ByteArray) (v:List UInt8) (w:World) (hA:Blk w A 26 #[.slice (some ⟨R,o,none⟩) 1 (cap+1)]) (hR:Blk w R 9 cur) (hi:cur[o]?=some (.string (mkS v))) (hp:Plain (mkS v)) (h91:v≠[91]) (h40:v≠[40]) (hpr:PrTab w) (hP:0 < w.heap.size) :
   Calls Tryz.prog 63 #[.string verb,.string ⟨#[]⟩,.pointer (some ⟨A,0,none⟩),dfR] w (IvR w A):=by
 unfold IvR
 have h91':((mkS v).toList == [91])=false:=by rw [mkS_beq];simpa using h91
 have h40':((mkS v).toList == [40])=false:=by rw [mkS_beq];simpa using h40
 obtain ⟨s,hs⟩:∃ s,s=mkS v:=⟨_,rfl⟩
 rw [← hs] at h91' h40' hi hp
 clear hs h91 h40
 have cA:w.cell? ⟨A,0,none⟩=some (.slice (some ⟨R,o,none⟩) 1 (cap+1)):=hA.cell 0 rfl
 have cR:w.cell? ⟨R,o,none⟩=some (.string s):=hR.cell o hi
 have HA:=hide hA
 have HR:=hide hR
 have HP:=hide hpr
 have HC:=hide (fun W (b:Blk W R 9 cur) q r=>parseVersion_fix R o cur verb ⟨#[]⟩ s W b hi hp q r)
 have hAl:=hA.lt
 have hRl:=hR.lt
 clear hA hR hi hpr hp
 go_enter Tryz.func63,Tryz.ntmps63
 go_wp2_with fail
 have hb0:Below w.heap.size w (w.alloc (Obj.cells #[.string ⟨#[]⟩,.string ⟨#[]⟩] 110)):=(Below.refl _ _).alloc (Nat.le_refl _) _
 have hT:=Blk.new w 110 #[.string ⟨#[]⟩,.string ⟨#[]⟩]
 have HB0:=hide hb0
 go_fit (HC.out _ (HR.out.alloc _) (HP.out.keptT (N:=w.heap.size) (S:=fun _=>True) ⟨hb0,fun k cs t fz e hn=>absurd True.intro hn⟩ hP) (Nat.lt_of_lt_of_le hP hb0.size))
 rintro e w1 ⟨rfl,hb1⟩
 have hT1:=hT.kept (Kp.of_below (X:=fun _=>False) hb1) (fun h=>h)
 have hA1:=HA.out.kept (Kp.of_below (X:=fun _=>False) (hb0.trans (hb1.mono hb0.size))) (fun h=>h)
 have fA:w1.frozen? ⟨A,0,none⟩=false:=hA1.free 0
 have cA1:w1.cell? ⟨A,0,none⟩=some (.slice (some ⟨R,o,none⟩) 1 (cap+1)):=hA1.cell 0 rfl
 have t0:w1.cell? ⟨w.heap.size,0,none⟩=some (.string ⟨#[]⟩):=hT1.cell 0 rfl
 have t1:w1.cell? ⟨w.heap.size,1,none⟩=some (.string ⟨#[]⟩):=hT1.cell 1 rfl
 have ft0:w1.frozen? ⟨w.heap.size,0,none⟩=false:=hT1.free 0
 have ft1:w1.frozen? ⟨w.heap.size,1,none⟩=false:=hT1.free 1
 have hAn:A≠w.heap.size:=by omega
 have hAn':w.heap.size≠A:=by omega
 have hAn2:¬ w.heap.size=A:=by omega
 have HT:=hide hT1
 have HA1:=hide hA1
 have HB1:=hide (hb0.trans (hb1.mono hb0.size))
 clear hT hT1 hA1 hb0 hb1 HC
 go_wp2_with fail
 all_goals refine iv_out (fun W=>bodyPost _ _ _ _ _ W) HA1.out HT.out (Nat.le_refl _) HB1.out hAl (fun W3 q1 q2 q3 q4=>?_)
 all_goals (have HQ:=hide (And.intro q1 q2);clear q1 q2)
 all_goals exact bodyPost_ret (v:=.tuple #[.agg #[.string s,.string s],.nilIface]) (by simp [results,Tryz.results63,go_sem,q3,q4]) rfl ⟨⟨_,_,rfl⟩,HQ.out.1,_,_,HQ.out.2⟩
set_option maxHeartbeats 4000000 in
theorem interval_2 (A R o cap:Nat) (cur:Array Value) (verb:ByteArray) (v m:List UInt8) (w:World) (hA:Blk w A 26 #[.slice (some ⟨R,o,none⟩) 5 (cap+5)]) (hR:Blk w R 9 cur)
   (h0:cur[o]?=some (.string ⟨#[91]⟩)) (h1:cur[o+1]?=some (.string (mkS v))) (h2:cur[o+2]?=some (.string ⟨#[44]⟩)) (h3:cur[o+3]?=some (.string (mkS m))) (h4:cur[o+4]?=some (.string ⟨#[93]⟩))
   (hp:Plain (mkS v)) (hq:Plain (mkS m)) (hpr:PrTab w) (hP:0 < w.heap.size) :
   Calls Tryz.prog 63 #[.string verb,.string ⟨#[]⟩,.pointer (some ⟨A,0,none⟩),dfR] w (IvR w A):=by
 unfold IvR
 obtain ⟨s,hs⟩:∃ s,s=mkS v:=⟨_,rfl⟩
 obtain ⟨s',hs'⟩:∃ s,s=mkS m:=⟨_,rfl⟩
 rw [← hs] at h1 hp
 rw [← hs'] at h3 hq
 clear hs hs'
 have cA:w.cell? ⟨A,0,none⟩=some (.slice (some ⟨R,o,none⟩) 5 (cap+5)):=hA.cell 0 rfl
 have c0:w.cell? ⟨R,o,none⟩=some (.string ⟨#[91]⟩):=hR.cell o h0
 have HA:=hide hA
 have HR:=hide hR
 have HP:=hide hpr
 have HC:=hide (fun W (b:Blk W R 9 cur) q r=>parseVersion_fix R (o+1) cur verb ⟨#[]⟩ s W b h1 hp q r)
 have HC2:=hide (fun W (b:Blk W R 9 cur) q r=>parseVersion_fix R (o+3) cur verb ⟨#[]⟩ s' W b h3 hq q r)
 have HI:=hide (And.intro h2 h4)
 have hAl:=hA.lt
 have hRl:=hR.lt
 clear hA hR h0 h1 h2 h3 h4 hpr hp hq
 go_enter Tryz.func63,Tryz.ntmps63
 go_wp2_with fail
 have hb0:Below w.heap.size w (w.alloc (Obj.cells #[.string ⟨#[]⟩,.string ⟨#[]⟩] 110)):=(Below.refl _ _).alloc (Nat.le_refl _) _
 have hT:=Blk.new w 110 #[.string ⟨#[]⟩,.string ⟨#[]⟩]
 have HB0:=hide hb0
 go_fit (HC.out _ (HR.out.alloc _) (HP.out.keptT (N:=w.heap.size) (S:=fun _=>True) ⟨hb0,fun k cs t fz e hn=>absurd True.intro hn⟩ hP) (Nat.lt_of_lt_of_le hP hb0.size))
 rintro e w1 ⟨rfl,hb1⟩
 have hB1:=hb0.trans (hb1.mono hb0.size)
 have hT1:=hT.kept (Kp.of_below (X:=fun _=>False) hb1) (fun h=>h)
 have hR1:=HR.out.kept (Kp.of_below (X:=fun _=>False) hB1) (fun h=>h)
 have c2:w1.cell? ⟨R,o+2,none⟩=some (.string ⟨#[44]⟩):=hR1.cell _ HI.out.1
 have HT1:=hide hT1
 have HR1:=hide hR1
 have HB1:=hide hB1
 clear hT hT1 hR1 hb0 hb1 HC hB1
 go_wp2_with fail
 go_fit (HC2.out w1 HR1.out (HP.out.keptT (N:=w.heap.size) (S:=fun _=>True) ⟨HB1.out,fun k cs t fz e hn=>absurd True.intro hn⟩ hP) (Nat.lt_of_lt_of_le hP HB1.out.size))
 rintro e w2 ⟨rfl,hb2⟩
 have hB2:=HB1.out.trans (hb2.mono HB1.out.size)
 have hT2:=HT1.out.kept (Kp.of_below (X:=fun _=>False) hb2) (fun h=>h)
 have hA2:=HA.out.kept (Kp.of_below (X:=fun _=>False) hB2) (fun h=>h)
 have hR2:=HR1.out.kept (Kp.of_below (X:=fun _=>False) hb2) (fun h=>h)
 have c4:w2.cell? ⟨R,o+4,none⟩=some (.string ⟨#[93]⟩):=hR2.cell _ HI.out.2
 have fA:w2.frozen? ⟨A,0,none⟩=false:=hA2.free 0
 have cA2:w2.cell? ⟨A,0,none⟩=some (.slice (some ⟨R,o,none⟩) 5 (cap+5)):=hA2.cell 0 rfl
 have t0:w2.cell? ⟨w.heap.size,0,none⟩=some (.string ⟨#[]⟩):=hT2.cell 0 rfl
 have t1:w2.cell? ⟨w.heap.size,1,none⟩=some (.string ⟨#[]⟩):=hT2.cell 1 rfl
 have ft0:w2.frozen? ⟨w.heap.size,0,none⟩=false:=hT2.free 0
 have ft1:w2.frozen? ⟨w.heap.size,1,none⟩=false:=hT2.free 1
 have hAn:A≠w.heap.size:=by omega
 have hAn':w.heap.size≠A:=by omega
 have hAn2:¬ w.heap.size=A:=by omega
 have HT:=hide hT2
 have HA1:=hide hA2
 have HB2:=hide hB2
 clear hT2 hA2 hR2 hb2 hB2 HC2
 go_wp2_with fail
 all_goals refine iv_out (fun W=>bodyPost _ _ _ _ _ W) HA1.out HT.out (Nat.le_refl _) HB2.out hAl (fun W3 q1 q2 q3 q4=>?_)
 all_goals (have HQ:=hide (And.intro q1 q2);clear q1 q2)
 all_goals exact bodyPost_ret (v:=.tuple #[.agg #[.string s,.string s'],.nilIface]) (by simp [results,Tryz.results63,go_sem,q3,q4]) rfl ⟨⟨_,_,rfl⟩,HQ.out.1,_,_,HQ.out.2⟩
end
end Go.Proofs.YtifkpibjeamfkaaGreatFmt
