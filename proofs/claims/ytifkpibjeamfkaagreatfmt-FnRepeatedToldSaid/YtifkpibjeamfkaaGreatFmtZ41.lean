/-
  The reference's GoVersion.
  The reference's ReplaceOk.
-/
import Derived.Test.YtifkpibjeamfkaaGreatFmtZ40
import Derived.Deep.CutBlock
import Derived.Test.YtifkpibjeamfkaaGreatFmtZ36
set_option linter.unusedVariables false
set_option linter.unusedSimpArgs false
set_option maxRecDepth 100000
namespace Go.Proofs.YtifkpibjeamfkaaGreatFmt
section
open Go.RowKit Go.Proofs
structure GoF (l:List UInt8):Prop where
 pos:0 < l.length
 chars:∀ x ∈ l,wdc x.toNat=true
 head:48≤ch l 0∧ch l 0≤57
theorem go_of {s:ByteArray} {s':ByteArray} {P:List (List UInt8)} (h:∃ r,bsl s=bsl s'++r∧∀ x ∈ r,wdc x.toNat=true) (hP:parts s' 46=P) (hd:∀ p ∈ P,DgL p):GoF (bsl s):=by
 obtain ⟨r,hr,hx⟩:=h
 obtain ⟨a,l,rfl⟩:∃ a l,P=a :: l:=by
   have:=parts_pos s' 46
   rw [hP] at this
   cases P with
   | nil=>simp at this
   | cons a l=>exact ⟨a,l,rfl⟩
 have hda:=hd a (List.mem_cons_self ..)
 have hc0:=parts_head (c:=46) (by decide) hP hda.1
 have hpos:0 < (bsl s').length:=by
   rcases hb:bsl s' with _ | ⟨u,t⟩
   · rw [hb] at hc0
     obtain ⟨c,hc,e⟩:=ch_memH a 0 hda.1
     have:=(hda.2.1 c hc)
     rw [← e,← hc0] at this
     simp [ch] at this
   · simp
 refine ⟨by rw [hr];simp;omega,fun x hxm=>?_,?_⟩
 · rw [hr] at hxm
   rcases List.mem_append.1 hxm with h1 | h1
   · rcases parts_mem (c:=46) (by decide) h1 with h2 | ⟨p,hp,h2⟩
     · rw [h2];decide
     · rw [hP] at hp
       have:=(hd p hp).2.1 x h2
       simp [wdc,digB,this.1,this.2]
   · exact hx x h1
 · have e:ch (bsl s) 0=ch (bsl s') 0:=by
     rw [hr]
     simp [ch,List.getD_eq_getElem?_getD,List.getElem?_append_left hpos]
   rw [e,hc0]
   obtain ⟨c,hc,e⟩:=ch_memH a 0 hda.1
   rw [e]
   exact hda.2.1 c hc
theorem go_split {s:ByteArray} {a b:Nat} (hab:a≤b) (hb:b≤s.size) (h1:∀ i,a≤i→i < b→letB (bt s i)=true) (h2:∀ i,b≤i→i < s.size→digB (bt s i)=true):∃ r,bsl s=bsl (s.extract 0 a)++r∧∀ x ∈ r,wdc x.toNat=true:=by
 refine ⟨(bsl s).drop a,?_,fun x hx=>?_⟩
 · rw [extract_mkS,bsl_mkSv]
   simp
 · obtain ⟨i,hi,rfl⟩:=List.getElem_of_mem hx
   have hl:=bsl_len s
   have hi':i < (bsl s).length - a:=by simpa using hi
   have e:((bsl s).drop a)[i].toNat=bt s (a+i):=by
     rw [bt_ch]
     simp [ch,List.getD_eq_getElem?_getD,List.getElem?_eq_getElem (show a+i < (bsl s).length by omega)]
   rw [e]
   rcases Nat.lt_or_ge (a+i) b with h3 | h3
   · simp [wdc,h1 (a+i) (by omega) h3]
   · simp [wdc,h2 (a+i) h3 (by omega)]
set_option maxHeartbeats 8000000 in
theorem goVersion_any (s:ByteArray) (w:World) (hs:s.size≤2147483647):Calls Tryz.prog 10 #[.string s] w (SaysB (GoF (bsl s)) w):=by
 have hS:∀ b:Bool,(b=true→GoF (bsl s))→∀ w',Below w.heap.size w w'→SaysB (GoF (bsl s)) w (.returned (.bool b)) w':=fun b h w' h'=>⟨⟨b,rfl,h⟩,h'⟩
 have HS:=hide hS
 clear hS
 go_enter Tryz.func10,Tryz.ntmps10
 go_upto_block 0 with fail
 go_cut [3] from 10 to 20 (fun x wx=>∃ k:Nat,k≤s.size∧x=.int .i64 (k:Int)∧w=wx∧Hid (∀ i,k≤i→i < s.size→digB (bt s i)=true))
 case first =>
   go_wp2_with fail
   go_loopg [3] (s.size) (fun k v3 wr=>w=wr∧k≤s.size∧v3=.int .i64 (k:Int)∧Hid (∀ i,k≤i→i < s.size→digB (bt s i)=true))
   case atStart=>exact ⟨rfl,Nat.le_refl _,rfl,hide (fun i h1 h2=>by omega)⟩
   case round =>
     obtain ⟨rfl,hk,rfl,HN⟩:=hrel
     rcases hgk:gk with _ | n
     · subst hgk
       go_wp2_with fail
       go_meet
       exact ⟨0,by omega,rfl,rfl,HN⟩
     · subst hgk
       have hlt:n < s.size:=by omega
       have hget:(s[n]'hlt).toNat=bt s n:=bt_get s n hlt
       have hwr:IntKind.i64.wrap (n:Int)=(n:Int):=Go.IntWalk.i64_in _ (by omega)
       have i0:(0:Int) < (n:Int)+1:=by omega
       rcases hd:digB (bt s n) with _ | _
       · have HD:=hide hd
         clear hd
         go_wp2_with fail
         refine (digit_b (bt s n) false _ HD.out).mono ?_
         rintro e w1 ⟨rfl,rfl⟩
         go_wp2_with fail
         go_meet
         exact ⟨n+1,by omega,by simp,rfl,HN⟩
       · have HD:=hide hd
         clear hd
         go_wp2_with fail
         refine (digit_b (bt s n) true _ HD.out).mono ?_
         rintro e w1 ⟨rfl,rfl⟩
         go_wp2_with fail
         go_roundg n
         case measure=>omega
         case rel=>exact ⟨rfl,by omega,by simp,hide (fun i h1 h2=>by
           rcases Nat.eq_or_lt_of_le h1 with h3 | h3
           · exact h3 ▸ HD.out
           · exact HN.out i h3 h2)⟩
 case rest =>
 obtain ⟨en,hen,rfl,rfl,HN⟩:=hcut
 go_upto_block 2 with fail
 go_cut [4] from 21 to 32 (fun x wx=>∃ k:Nat,k≤en∧x=.int .i64 (k:Int)∧w=wx∧Hid (∀ i,k≤i→i < en→letB (bt s i)=true))
 case first =>
   go_wp2_with fail
   go_loopg [4] (en) (fun k v3 wr=>w=wr∧k≤en∧v3=.int .i64 (k:Int)∧Hid (∀ i,k≤i→i < en→letB (bt s i)=true))
   case atStart=>exact ⟨rfl,Nat.le_refl _,rfl,hide (fun i h1 h2=>by omega)⟩
   case round =>
     obtain ⟨rfl,hk,rfl,HM⟩:=hrel
     rcases hgk:gk with _ | n
     · subst hgk
       go_wp2_with fail
       go_meet
       exact ⟨0,by omega,rfl,rfl,HM⟩
     · subst hgk
       have hlt:n < s.size:=by omega
       have hget:(s[n]'hlt).toNat=bt s n:=bt_get s n hlt
       have hwr:IntKind.i64.wrap (n:Int)=(n:Int):=Go.IntWalk.i64_in _ (by omega)
       have i0:(0:Int) < (n:Int)+1:=by omega
       rcases hd:letB (bt s n) with _ | _
       · have HD:=hide hd
         clear hd
         go_wp2_with fail
         refine (letter_b (bt s n) false _ HD.out).mono ?_
         rintro e w1 ⟨rfl,rfl⟩
         go_wp2_with fail
         go_meet
         exact ⟨n+1,by omega,by simp,rfl,HM⟩
       · have HD:=hide hd
         clear hd
         go_wp2_with fail
         refine (letter_b (bt s n) true _ HD.out).mono ?_
         rintro e w1 ⟨rfl,rfl⟩
         go_wp2_with fail
         go_roundg n
         case measure=>omega
         case rel=>exact ⟨rfl,by omega,by simp,hide (fun i h1 h2=>by
           rcases Nat.eq_or_lt_of_le h1 with h3 | h3
           · exact h3 ▸ HD.out
           · exact HM.out i h3 h2)⟩
 case rest =>
 obtain ⟨fr,hfr,rfl,rfl,HM⟩:=hcut
 by_cases hlt7:(fr:Int) < (en:Int)
 · by_cases heq:en=s.size
   · have hq:((en:Int) == (s.size:Int))=true:=by rw [heq];simp
     clear heq
     go_wp2_with fail
     go_ret
     exact HS.out false (fun h=>by cases h) _ (Below.refl _ _)
   · have hq:((en:Int) == (s.size:Int))=false:=by simp only [beq_eq_false_iff_ne,ne_eq];omega
     have hex:(s.extract 0 fr).size≤2147483647:=by rw [ByteArray.size_extract];omega
     have hb0:(0:Int)≤(fr:Int):=by omega
     have hb1:(fr:Int)≤(s.size:Int):=by omega
     clear heq
     go_wp2_with fail
     refine (cut_p 46 _ _ hex).mono ?_
     rintro e w3 ⟨P,g,cap,hP,rfl,hcap,hb3,hcell⟩
     have HB3:=hide hb3
     have HC:=hide hcell
     have HLE:=hide (fun p (hp:p ∈ P)=>parts_le (s:=s.extract 0 fr) (c:=46) (hP ▸ hp))
     have HFIN:=hide (fun (h:∀ p ∈ P,DgL p)=>go_of (s:=s) (s':=s.extract 0 fr) (go_split (a:=fr) (b:=en) (by omega) hen HM.out HN.out) hP h)
     have hpl:P.length≤s.size+1:=by
       have h1:=cutOut_le (s.extract 0 fr) 46 (s.extract 0 fr).size
       have h2:(s.extract 0 fr).size≤s.size:=(by rw [ByteArray.size_extract];omega)
       rw [← hP,parts]
       rw [cutOut_map,List.length_map] at h1
       simp only [List.length_append,List.length_cons,List.length_nil];omega
     have hsle:(s.extract 0 fr).size≤s.size:=(by rw [ByteArray.size_extract];omega)
     clear hb3 hcell hP
     go_wp2_with fail
     go_loopg [47] P.length (fun k v47 wr=>∃ j:Nat,j+k=P.length∧v47=.int .i64 (j:Int)∧Hid (Below w3.heap.size w3 wr∧∀ p ∈ P.take j,DgL p))
     case atStart=>exact ⟨0,by omega,rfl,hide ⟨Below.refl _ _,by simp⟩⟩
     case round =>
       obtain ⟨j,hj,rfl,HN2⟩:=hrel
       have hbw:Below w3.heap.size w3 wr:=HN2.out.1
       rcases Nat.lt_or_ge j P.length with hlt2 | hge2
       · have c0:=HC.out j P[j] (List.getElem?_eq_getElem hlt2)
         have k0:=(hbw.cell (World.block_lt_of_cell? _ _ c0)).trans c0
         have hpsz:(mkS P[j]).size≤2147483647:=by rw [mkS_size];exact Nat.le_trans (HLE.out _ (List.getElem_mem hlt2)) (by omega)
         have HNX:=hide (fun (h:DgL P[j])=>take_next hlt2 HN2.out.2 h)
         have hPj:bsl (mkS P[j])=P[j]:=rfl
         have HPJ:=hide hPj
         clear c0 hPj
         generalize P[j]=p at k0 hpsz HNX HPJ
         have j0:(0:Int)≤(j:Int):=by omega
         have j1:(j:Int) < (P.length:Int):=by omega
         have HBW:=hide hbw
         clear hbw
         go_wp2_with fail
         go_fit (longS_any (mkS p) _ hpsz)
         rintro e w4 ⟨⟨b,rfl,hb⟩,hw4⟩
         have HWB:=hide hb
         have HW4:=hide (HBW.out.trans (hw4.mono HBW.out.size))
         clear hb hw4
         cases b with
         | false =>
           go_wp2_with fail
           go_ret
           exact HS.out false (fun h=>by cases h) _ (HB3.out.trans (HW4.out.mono HB3.out.size))
         | true =>
           have HWT:=hide (HWB.out rfl)
           go_wp2_with fail
           go_roundg (P.length - (j+1))
           case measure=>omega
           case rel=>exact ⟨j+1,by omega,by simp,hide ⟨HW4.out,HNX.out (by rw [← HPJ.out];exact HWT.out)⟩⟩
       · obtain rfl:j=P.length:=by omega
         have hall:∀ p ∈ P,DgL p:=by have:=HN2.out.2;rwa [List.take_length] at this
         have HALL:=hide hall
         have HBW:=hide hbw
         clear hall hbw hsle hpl
         rcases P with _ | ⟨a,_ | ⟨b,_ | ⟨c,_ | ⟨d,l⟩⟩⟩⟩
         · go_wp2_with fail
           go_ret
           exact HS.out _ (fun h=>HFIN.out HALL.out) _ (HB3.out.trans (HBW.out.mono HB3.out.size))
         · go_wp2_with fail
           go_ret
           exact HS.out _ (fun h=>HFIN.out HALL.out) _ (HB3.out.trans (HBW.out.mono HB3.out.size))
         · have c0:=HC.out 0 a rfl
           have k0:=(HBW.out.cell (World.block_lt_of_cell? _ _ c0)).trans c0
           clear c0
           go_wp2_with fail
           go_ret
           exact HS.out _ (fun h=>HFIN.out HALL.out) _ (HB3.out.trans (HBW.out.mono HB3.out.size))
         · have c0:=HC.out 0 a rfl
           have k0:=(HBW.out.cell (World.block_lt_of_cell? _ _ c0)).trans c0
           clear c0
           go_wp2_with fail
           go_ret
           exact HS.out _ (fun h=>HFIN.out HALL.out) _ (HB3.out.trans (HBW.out.mono HB3.out.size))
         · have hn4:(((a :: b :: c :: d :: l).length:Int) == 2)=false:=by simp;omega
           have hn5:(((a :: b :: c :: d :: l).length:Int) == 3)=false:=by simp;omega
           generalize (a :: b :: c :: d :: l).length=nn at hn4 hn5 ⊢
           go_wp2_with fail
           go_ret
           exact HS.out _ (fun h=>HFIN.out HALL.out) _ (HB3.out.trans (HBW.out.mono HB3.out.size))
 · skip
   go_wp2_with fail
   refine (cut_p 46 _ _ hs).mono ?_
   rintro e w3 ⟨P,g,cap,hP,rfl,hcap,hb3,hcell⟩
   have HB3:=hide hb3
   have HC:=hide hcell
   have HLE:=hide (fun p (hp:p ∈ P)=>parts_le (s:=s) (c:=46) (hP ▸ hp))
   have HFIN:=hide (fun (h:∀ p ∈ P,DgL p)=>go_of (s:=s) (s':=s) ⟨[],by simp,by simp⟩ hP h)
   have hpl:P.length≤s.size+1:=by
     have h1:=cutOut_le (s) 46 (s).size
     have h2:(s).size≤s.size:=(Nat.le_refl _)
     rw [← hP,parts]
     rw [cutOut_map,List.length_map] at h1
     simp only [List.length_append,List.length_cons,List.length_nil];omega
   have hsle:(s).size≤s.size:=(Nat.le_refl _)
   clear hb3 hcell hP
   go_wp2_with fail
   go_loopg [47] P.length (fun k v47 wr=>∃ j:Nat,j+k=P.length∧v47=.int .i64 (j:Int)∧Hid (Below w3.heap.size w3 wr∧∀ p ∈ P.take j,DgL p))
   case atStart=>exact ⟨0,by omega,rfl,hide ⟨Below.refl _ _,by simp⟩⟩
   case round =>
     obtain ⟨j,hj,rfl,HN2⟩:=hrel
     have hbw:Below w3.heap.size w3 wr:=HN2.out.1
     rcases Nat.lt_or_ge j P.length with hlt2 | hge2
     · have c0:=HC.out j P[j] (List.getElem?_eq_getElem hlt2)
       have k0:=(hbw.cell (World.block_lt_of_cell? _ _ c0)).trans c0
       have hpsz:(mkS P[j]).size≤2147483647:=by rw [mkS_size];exact Nat.le_trans (HLE.out _ (List.getElem_mem hlt2)) (by omega)
       have HNX:=hide (fun (h:DgL P[j])=>take_next hlt2 HN2.out.2 h)
       have hPj:bsl (mkS P[j])=P[j]:=rfl
       have HPJ:=hide hPj
       clear c0 hPj
       generalize P[j]=p at k0 hpsz HNX HPJ
       have j0:(0:Int)≤(j:Int):=by omega
       have j1:(j:Int) < (P.length:Int):=by omega
       have HBW:=hide hbw
       clear hbw
       go_wp2_with fail
       go_fit (longS_any (mkS p) _ hpsz)
       rintro e w4 ⟨⟨b,rfl,hb⟩,hw4⟩
       have HWB:=hide hb
       have HW4:=hide (HBW.out.trans (hw4.mono HBW.out.size))
       clear hb hw4
       cases b with
       | false =>
         go_wp2_with fail
         go_ret
         exact HS.out false (fun h=>by cases h) _ (HB3.out.trans (HW4.out.mono HB3.out.size))
       | true =>
         have HWT:=hide (HWB.out rfl)
         go_wp2_with fail
         go_roundg (P.length - (j+1))
         case measure=>omega
         case rel=>exact ⟨j+1,by omega,by simp,hide ⟨HW4.out,HNX.out (by rw [← HPJ.out];exact HWT.out)⟩⟩
     · obtain rfl:j=P.length:=by omega
       have hall:∀ p ∈ P,DgL p:=by have:=HN2.out.2;rwa [List.take_length] at this
       have HALL:=hide hall
       have HBW:=hide hbw
       clear hall hbw hsle hpl
       rcases P with _ | ⟨a,_ | ⟨b,_ | ⟨c,_ | ⟨d,l⟩⟩⟩⟩
       · go_wp2_with fail
         go_ret
         exact HS.out _ (fun h=>HFIN.out HALL.out) _ (HB3.out.trans (HBW.out.mono HB3.out.size))
       · go_wp2_with fail
         go_ret
         exact HS.out _ (fun h=>HFIN.out HALL.out) _ (HB3.out.trans (HBW.out.mono HB3.out.size))
       · have c0:=HC.out 0 a rfl
         have k0:=(HBW.out.cell (World.block_lt_of_cell? _ _ c0)).trans c0
         clear c0
         go_wp2_with fail
         go_ret
         exact HS.out _ (fun h=>HFIN.out HALL.out) _ (HB3.out.trans (HBW.out.mono HB3.out.size))
       · have c0:=HC.out 0 a rfl
         have k0:=(HBW.out.cell (World.block_lt_of_cell? _ _ c0)).trans c0
         clear c0
         go_wp2_with fail
         go_ret
         exact HS.out _ (fun h=>HFIN.out HALL.out) _ (HB3.out.trans (HBW.out.mono HB3.out.size))
       · have hn4:(((a :: b :: c :: d :: l).length:Int) == 2)=false:=by simp;omega
         have hn5:(((a :: b :: c :: d :: l).length:Int) == 3)=false:=by simp;omega
         generalize (a :: b :: c :: d :: l).length=nn at hn4 hn5 ⊢
         go_wp2_with fail
         go_ret
         exact HS.out _ (fun h=>HFIN.out HALL.out) _ (HB3.out.trans (HBW.out.mono HB3.out.size))
end
section
open Go.RowKit Go.Proofs
def RepF (r:CRep):Prop:=PathF (mkS r.op)∧(r.ov=[]∨VerL r.ov)∧NiceL r.np∧(r.nv=[]∨VerL r.nv)
theorem empty_bool (l:List UInt8):∃ z,(mkS l).toList.isEmpty=z∧(z=true→l=[])∧(z=false→l≠[]):=by
 refine ⟨_,rfl,?_,?_⟩ <;> rw [Lib.toList_data,mkS_list] <;> cases l <;> simp
theorem sz_mkS {l:List UInt8} (h:szOk l):(mkS l).size≤2147483647:=by rw [mkS_size];exact h
set_option maxHeartbeats 8000000 in
theorem replaceOk_any (r:CRep) (w:World) (h:(szOk r.op∧szOk r.ov)∧szOk r.np∧szOk r.nv):Calls Tryz.prog 26 #[.agg #[.string (mkS r.op),.string (mkS r.ov),.string (mkS r.np),.string (mkS r.nv)]] w (SaysB (RepF r) w):=by
 obtain ⟨⟨h1,h2⟩,h3,h4⟩:=h
 obtain ⟨z2,hz2,hn2,hm2⟩:=empty_bool r.ov
 obtain ⟨z4,hz4,hn4,hm4⟩:=empty_bool r.nv
 obtain ⟨s1,hs1⟩:∃ s,s=mkS r.op:=⟨_,rfl⟩
 obtain ⟨s2,hs2⟩:∃ s,s=mkS r.ov:=⟨_,rfl⟩
 obtain ⟨s3,hs3⟩:∃ s,s=mkS r.np:=⟨_,rfl⟩
 obtain ⟨s4,hs4⟩:∃ s,s=mkS r.nv:=⟨_,rfl⟩
 have l1:s1.size≤2147483647:=hs1 ▸ sz_mkS h1
 have l2:s2.size≤2147483647:=hs2 ▸ sz_mkS h2
 have l3:s3.size≤2147483647:=hs3 ▸ sz_mkS h3
 have l4:s4.size≤2147483647:=hs4 ▸ sz_mkS h4
 rw [← hs2] at hz2
 rw [← hs4] at hz4
 rw [← hs1,← hs2,← hs3,← hs4]
 have P1:=hide (show PathF s1→PathF (mkS r.op) from fun h=>hs1 ▸ h)
 have P2:=hide (show VerL (bsl s2)→VerL r.ov from fun h=>by rw [hs2] at h;exact h)
 have P3:=hide (show PathF s3→NiceL r.np from fun h=>pathF_nice (hs3 ▸ h))
 have P4:=hide (show VerL (bsl s4)→VerL r.nv from fun h=>by rw [hs4] at h;exact h)
 have P5:=hide (show NiceL (bsl s3)→NiceL r.np from fun h=>by rw [hs3] at h;exact h)
 have N2:=hide hn2
 have N4:=hide hn4
 have HS:=hide (show ∀ b:Bool,(b=true→RepF r)→∀ w',Below w.heap.size w w'→SaysB (RepF r) w (.returned (.bool b)) w' from fun b h w' h'=>⟨⟨b,rfl,h⟩,h'⟩)
 clear hs1 hs2 hs3 hs4 h1 h2 h3 h4 hn2 hn4 hm2 hm4
 have HK0:=hide (Blk.new w 50 #[.string s1,.string s2,.string s3,.string s4])
 have HB0:=hide ((Below.refl w.heap.size w).alloc (Nat.le_refl _) (Obj.cells #[.string s1,.string s2,.string s3,.string s4] 50))
 go_enter Tryz.func26,Tryz.ntmps26
 go_upto_region 1 with fail
 generalize w.alloc (Obj.cells #[.string s1,.string s2,.string s3,.string s4] 50)=W at HK0 HB0 ⊢
 go_cut [3] (fun x wx=>∃ b:Bool,x=.bool b∧Hid (b=true→PathF (mkS r.op)∧(r.ov=[]∨VerL r.ov))∧Hid (Below w.heap.size w wx)∧Hid (Blk wx w.heap.size 50 #[.string s1,.string s2,.string s3,.string s4]))
 case first =>
   have k0:W.cell? ⟨w.heap.size,0,none⟩=some (.string s1):=HK0.out.cell 0 rfl
   cases z2 with
   | true =>
     have E2:=hide (N2.out rfl)
     go_wp2_with fail
     refine (pathOk_any s1 _ l1).mono ?_
     rintro e w1 ⟨⟨b,rfl,hb⟩,hw1⟩
     have HK1:=hide (HK0.out.kept (Kp.of_below (X:=fun _=>False) hw1) (fun h=>h))
     have HB1:=hide (HB0.out.trans (hw1.mono HB0.out.size))
     have k1:w1.cell? ⟨w.heap.size,1,none⟩=some (.string s2):=HK1.out.cell 1 rfl
     have HX:=hide hb
     clear hb hw1
     cases b with
     | false =>
       go_wp2_with fail
       go_meet
       exact ⟨false,rfl,hide (fun h=>by cases h),HB1,HK1⟩
     | true =>
       have HXt:=hide (HX.out rfl)
       go_wp2_with fail
       go_meet
       exact ⟨true,rfl,hide (fun _=>⟨P1.out HXt.out,Or.inl E2.out⟩),HB1,HK1⟩
   | false =>
     go_wp2_with fail
     refine (pathOk_any s1 _ l1).mono ?_
     rintro e w1 ⟨⟨b,rfl,hb⟩,hw1⟩
     have HK1:=hide (HK0.out.kept (Kp.of_below (X:=fun _=>False) hw1) (fun h=>h))
     have HB1:=hide (HB0.out.trans (hw1.mono HB0.out.size))
     have k1:w1.cell? ⟨w.heap.size,1,none⟩=some (.string s2):=HK1.out.cell 1 rfl
     have HX:=hide hb
     clear hb hw1
     cases b with
     | false =>
       go_wp2_with fail
       go_meet
       exact ⟨false,rfl,hide (fun h=>by cases h),HB1,HK1⟩
     | true =>
       have HXt:=hide (HX.out rfl)
       go_wp2_with fail
       go_fit (versionOk_any s2 _ l2)
       rintro e w2 ⟨⟨b,rfl,hb⟩,hw2⟩
       have HK2:=hide (HK1.out.kept (Kp.of_below (X:=fun _=>False) hw2) (fun h=>h))
       have HB2:=hide (HB1.out.trans (hw2.mono HB1.out.size))
       have HY:=hide hb
       clear hb hw2
       go_wp2_with fail
       go_meet
       exact ⟨b,rfl,hide (fun h=>⟨P1.out HXt.out,Or.inr (P2.out (HY.out h))⟩),HB2,HK2⟩
 case rest =>
 obtain ⟨b0,rfl,HO,HB2,HK2⟩:=hcut
 have j0:=HK2.out.cell 0 rfl
 have k2:wc.cell? ⟨w.heap.size,2,none⟩=some (.string s3):=HK2.out.cell 2 rfl
 clear j0
 cases b0 with
 | false =>
   go_wp2_with fail
   go_ret
   exact HS.out false (fun h=>by cases h) _ HB2.out
 | true =>
   have HOt:=hide (HO.out rfl)
   go_wp2_with fail
   refine (pathOk_any s3 _ l3).mono ?_
   rintro e w3 ⟨⟨b3,rfl,hb3⟩,hw3⟩
   have HK3:=hide (HK2.out.kept (Kp.of_below (X:=fun _=>False) hw3) (fun h=>h))
   have HB3:=hide (HB2.out.trans (hw3.mono HB2.out.size))
   have i2:w3.cell? ⟨w.heap.size,2,none⟩=some (.string s3):=HK3.out.cell 2 rfl
   have i3:w3.cell? ⟨w.heap.size,3,none⟩=some (.string s4):=HK3.out.cell 3 rfl
   have H3:=hide hb3
   clear hb3 hw3
   cases b3 with
   | false =>
     go_wp2_with fail
     go_fit (dirOk_any s3 _ l3)
     rintro e w5 ⟨⟨b5,rfl,hb5⟩,hw5⟩
     have HK5:=hide (HK3.out.kept (Kp.of_below (X:=fun _=>False) hw5) (fun h=>h))
     have HB5:=hide (HB3.out.trans (hw5.mono HB3.out.size))
     have q3:w5.cell? ⟨w.heap.size,3,none⟩=some (.string s4):=HK5.out.cell 3 rfl
     have H5:=hide hb5
     clear hb5 hw5
     cases b5 with
     | false =>
       go_wp2_with fail
       go_ret
       exact HS.out false (fun h=>by cases h) _ HB5.out
     | true =>
       have H5t:=hide (H5.out rfl)
       cases z4 with
       | false =>
         go_wp2_with fail
         go_ret
         exact HS.out false (fun h=>by cases h) _ HB5.out
       | true =>
         have E4:=hide (N4.out rfl)
         go_wp2_with fail
         go_ret
         exact HS.out true (fun _=>⟨HOt.out.1,HOt.out.2,P5.out H5t.out,Or.inl E4.out⟩) _ HB5.out
   | true =>
     have H3t:=hide (H3.out rfl)
     go_wp2_with fail
     go_fit (versionOk_any s4 _ l4)
     rintro e w4 ⟨⟨b4,rfl,hb4⟩,hw4⟩
     have HK4:=hide (HK3.out.kept (Kp.of_below (X:=fun _=>False) hw4) (fun h=>h))
     have HB4:=hide (HB3.out.trans (hw4.mono HB3.out.size))
     have i2:w4.cell? ⟨w.heap.size,2,none⟩=some (.string s3):=HK4.out.cell 2 rfl
     have H4:=hide hb4
     clear hb4 hw4
     cases b4 with
     | true =>
       have H4t:=hide (H4.out rfl)
       go_wp2_with fail
       go_ret
       exact HS.out true (fun _=>⟨HOt.out.1,HOt.out.2,P3.out H3t.out,Or.inr (P4.out H4t.out)⟩) _ HB4.out
     | false =>
       go_wp2_with fail
       go_fit (dirOk_any s3 _ l3)
       rintro e w5 ⟨⟨b5,rfl,hb5⟩,hw5⟩
       have HK5:=hide (HK4.out.kept (Kp.of_below (X:=fun _=>False) hw5) (fun h=>h))
       have HB5:=hide (HB4.out.trans (hw5.mono HB4.out.size))
       have q3:w5.cell? ⟨w.heap.size,3,none⟩=some (.string s4):=HK5.out.cell 3 rfl
       have H5:=hide hb5
       clear hb5 hw5
       cases b5 with
       | false =>
         go_wp2_with fail
         go_ret
         exact HS.out false (fun h=>by cases h) _ HB5.out
       | true =>
         have H5t:=hide (H5.out rfl)
         cases z4 with
         | false =>
           go_wp2_with fail
           go_ret
           exact HS.out false (fun h=>by cases h) _ HB5.out
         | true =>
           have E4:=hide (N4.out rfl)
           go_wp2_with fail
           go_ret
           exact HS.out true (fun _=>⟨HOt.out.1,HOt.out.2,P5.out H5t.out,Or.inl E4.out⟩) _ HB5.out
end
end Go.Proofs.YtifkpibjeamfkaaGreatFmt
