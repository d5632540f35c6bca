/-
  The reference's letter, digit, Begins, Cut.
  The reference's PathOk.
  The reference's WordOk.
-/
import Derived.Test.YtifkpibjeamfkaaGreatFmtZ10
set_option linter.unusedVariables false
set_option linter.unusedSimpArgs false
set_option maxRecDepth 100000
namespace Go.Proofs.YtifkpibjeamfkaaGreatFmt
section
open Go.RowKit Go.Proofs
def letB (c:Nat):Bool:=decide (97≤c∧c≤122)
def digB (c:Nat):Bool:=decide (48≤c∧c≤57)
theorem letter_b (c:Nat) (b:Bool) (w:World) (h:letB c=b):Calls Tryz.prog 28 #[.int .u8 (c:Int)] w fun e w'=>e=.returned (.bool b)∧w=w':=by
 unfold letB at h
 cases b with
 | true =>
   have h':=of_decide_eq_true h
   have h1:(97:Int)≤(c:Int):=by omega
   have h2:(c:Int)≤122:=by omega
   clear h h'
   go_enter Tryz.func28,Tryz.ntmps28
   go_wp2
   go_ret
   exact ⟨rfl,rfl⟩
 | false =>
   have h':=of_decide_eq_false h
   clear h
   by_cases h1:(97:Int)≤(c:Int)
   · have h2:¬ (c:Int)≤122:=by omega
     clear h'
     go_enter Tryz.func28,Tryz.ntmps28
     go_wp2
     go_ret
     exact ⟨rfl,rfl⟩
   · clear h'
     go_enter Tryz.func28,Tryz.ntmps28
     go_wp2
     go_ret
     exact ⟨rfl,rfl⟩
theorem digit_b (c:Nat) (b:Bool) (w:World) (h:digB c=b):Calls Tryz.prog 31 #[.int .u8 (c:Int)] w fun e w'=>e=.returned (.bool b)∧w=w':=by
 unfold digB at h
 cases b with
 | true =>
   have h':=of_decide_eq_true h
   have h1:(48:Int)≤(c:Int):=by omega
   have h2:(c:Int)≤57:=by omega
   clear h h'
   go_enter Tryz.func31,Tryz.ntmps31
   go_wp2
   go_ret
   exact ⟨rfl,rfl⟩
 | false =>
   have h':=of_decide_eq_false h
   clear h
   by_cases h1:(48:Int)≤(c:Int)
   · have h2:¬ (c:Int)≤57:=by omega
     clear h'
     go_enter Tryz.func31,Tryz.ntmps31
     go_wp2
     go_ret
     exact ⟨rfl,rfl⟩
   · clear h'
     go_enter Tryz.func31,Tryz.ntmps31
     go_wp2
     go_ret
     exact ⟨rfl,rfl⟩
theorem begins_any (s p:ByteArray) (w:World) (hs:s.size≤1000000) (hp:p.size≤1000000) :
   Calls Tryz.prog 30 #[.string s,.string p] w fun e w'=>e=.returned (.bool (decide (p.size≤s.size) && ((s.extract 0 p.size).toList == p.toList)))∧w=w':=by
 by_cases h:p.size≤s.size
 · have h1:(p.size:Int)≤(s.size:Int):=by omega
   have h0:(0:Int)≤(p.size:Int):=by omega
   go_enter Tryz.func30,Tryz.ntmps30
   go_wp2_with fail
   go_ret
   exact ⟨by simp [h],rfl⟩
 · have h1:¬ (p.size:Int)≤(s.size:Int):=by omega
   go_enter Tryz.func30,Tryz.ntmps30
   go_wp2_with fail
   go_ret
   exact ⟨by simp,rfl⟩
def cutFrom (s:ByteArray) (c:Nat):Nat→Nat
 | 0=>0
 | k+1=>if bt s k=c then k+1 else cutFrom s c k
def cutOut (s:ByteArray) (c:Nat):Nat→List Value
 | 0=>[]
 | k+1=>if bt s k=c then cutOut s c k++[.string (s.extract (cutFrom s c k) k)] else cutOut s c k
def cutL (s:ByteArray) (c:Nat):List Value:=cutOut s c s.size++[.string (s.extract (cutFrom s c s.size) s.size)]
theorem cutFrom_le (s:ByteArray) (c k:Nat):cutFrom s c k≤k:=by
 induction k with
 | zero=>exact Nat.le_refl _
 | succ k ih=>simp only [cutFrom];split <;> omega
theorem cutOut_le (s:ByteArray) (c k:Nat):(cutOut s c k).length≤k:=by
 induction k with
 | zero=>exact Nat.le_refl _
 | succ k ih =>
   simp only [cutOut];split
   · simp;omega
   · omega
theorem own_base {w:World} {b:Nat} {e:TypeId} {size n k:Nat} {v:Value} {xs:List Value} (h:w.ownsRow b e size v n xs) (hk:v.ownBlock=some k):b≤k:=by
 rcases h.2 with ⟨rfl,_⟩ | ⟨g,cap,cur,rfl,hg,_⟩
 · cases hk
 · injection hk with hk;exact hk ▸ hg
def CutInv (s:ByteArray) (w:World) (j:Nat) (v:Value) (wr:World):Prop:=wr.ownsRow w.heap.size 9 1 v (cutOut s 47 j).length (cutOut s 47 j)∧Below w.heap.size w wr
set_option maxHeartbeats 2000000 in
theorem cut_any (s:ByteArray) (w:World) (hs:s.size≤2147483647) :
   Calls Tryz.prog 29 #[.string s,.int .u8 47] w fun e w'=>∃ v,e=.returned v∧Below w.heap.size w w'∧w'.ownsRow w.heap.size 9 1 v (cutL s 47).length (cutL s 47):=by
 obtain ⟨i0,hi0,hz0,hz1,hz2⟩:=info_parts Tryz.infoStr
 go_enter Tryz.func29,Tryz.ntmps29
 go_wp2_with fail
 go_loopg [5,6,7] s.size (fun k v5 v6 v7 wr=>∃ j:Nat,j+k=s.size∧v7=.int .i64 (j:Int)∧v6=.int .i64 (cutFrom s 47 j:Nat)∧Hid (CutInv s w j v5 wr))
 case atStart =>
   refine ⟨0,by omega,rfl,rfl,hide ⟨?_,(Below.refl _ _).alloc (Nat.le_refl _) _⟩⟩
   have:=owns_new w w.heap.size 9 #[] (Nat.le_refl _) (by simp [maxLen])
   simpa [cutOut] using this
 case round =>
   obtain ⟨j,hj,rfl,rfl,HI⟩:=hrel
   have hfj:=cutFrom_le s 47 j
   have hol:=cutOut_le s 47 j
   have hwl:w.heap.size≤wr.heap.size:=HI.out.2.size
   rcases Nat.lt_or_ge j s.size with hlt | hge
   · have hget:(s[j]'hlt).toNat=bt s j:=bt_get s j hlt
     by_cases h47:bt s j=47
     · have g:((bt s j:Int) == 47)=true:=by rw [h47];rfl
       have z0:(0:Int)≤(cutFrom s 47 j:Nat):=by omega
       have z1:((cutFrom s 47 j:Nat):Int)≤(j:Int):=by omega
       have z2:(j:Int)≤(s.size:Int):=by omega
       have H47:=hide h47
       have hm1:(cutOut s 47 j).length+1≤maxLen:=by unfold maxLen;omega
       have hm2:((cutOut s 47 j).length+1) * 16≤140737488355328:=by omega
       have M:=hide (And.intro hm1 hm2)
       clear h47 hm1 hm2 hfj
       go_wp2_with (at_builtin;refine wpList_append_lies _ rfl _ _ _ rfl w.heap.size 9 i0 _ 1 16 Tryz.und_strs hi0 hz0 hz1 hz2 rfl (by omega) _ _ _ (by rfl) (HI.out.1.alloc _) ⟨wr.heap.size,0,none⟩ 1 1 [.string (s.extract (cutFrom s 47 j) j)] (by rfl) (by rfl) (news_one _ _ _) (by simp [Value.oneCell']) (by omega) M.out.1 M.out.2 (by simp;omega) (wr.heap.size+1) (by simp) ?_;intro gg cap w3 hown3 hgrow3 hat3 hlt3;have HOWN3:=hide hown3;have hb3:Below w.heap.size w w3:=(HI.out.2.alloc hwl _).grown hgrow3 (by simp;omega) (fun k e=>own_base HI.out.1 e);have HB3:=hide hb3;clear hown3 hgrow3 hat3 hlt3 hb3)
       go_roundg (s.size - (j+1))
       case measure=>omega
       case rel =>
         refine ⟨j+1,by omega,by simp,?_,hide ⟨?_,HB3.out⟩⟩
         · simp [cutFrom,H47.out]
         · simpa [cutOut,H47.out] using HOWN3.out
     · have g:((bt s j:Int) == 47)=false:=by simp only [beq_eq_false_iff_ne];omega
       have H47:=hide h47
       clear h47
       go_wp2_with fail
       go_roundg (s.size - (j+1))
       case measure=>omega
       case rel =>
         refine ⟨j+1,by omega,by simp,?_,hide ⟨?_,HI.out.2⟩⟩
         · simp [cutFrom,H47.out]
         · simpa [cutOut,H47.out] using HI.out.1
   · obtain rfl:j=s.size:=by omega
     have z0:(0:Int)≤(cutFrom s 47 s.size:Nat):=by omega
     have z1:((cutFrom s 47 s.size:Nat):Int)≤(s.size:Int):=by omega
     have hm1:(cutOut s 47 s.size).length+1≤maxLen:=by unfold maxLen;omega
     have hm2:((cutOut s 47 s.size).length+1) * 16≤140737488355328:=by omega
     have M:=hide (And.intro hm1 hm2)
     clear hm1 hm2 hfj
     go_wp2_with (at_builtin;refine wpList_append_lies _ rfl _ _ _ rfl w.heap.size 9 i0 _ 1 16 Tryz.und_strs hi0 hz0 hz1 hz2 rfl (by omega) _ _ _ (by rfl) (HI.out.1.alloc _) ⟨wr.heap.size,0,none⟩ 1 1 [.string (s.extract (cutFrom s 47 s.size) s.size)] (by rfl) (by rfl) (news_one _ _ _) (by simp [Value.oneCell']) (by omega) M.out.1 M.out.2 (by simp;omega) (wr.heap.size+1) (by simp) ?_;intro gg cap w3 hown3 hgrow3 hat3 hlt3;have HOWN3:=hide hown3;have hb3:Below w.heap.size w w3:=(HI.out.2.alloc hwl _).grown hgrow3 (by simp;omega) (fun k e=>own_base HI.out.1 e);have HB3:=hide hb3;clear hown3 hgrow3 hat3 hlt3 hb3)
     go_ret
     exact ⟨_,rfl,HB3.out,by simpa [cutL] using HOWN3.out⟩
end
section
open Go.RowKit Go.Proofs
def pch (c:Nat):Bool:=letB c || c == 46 || c == 47
def PartOk (v:Value):Prop:=∃ p n,v=.string p∧p.size=n+1∧letB (bt p 0)=true∧letB (bt p n)=true
structure PathF (s:ByteArray):Prop where
 chars:∀ k,k < s.size→pch (bt s k)=true
 parts:∀ v ∈ cutL s 47,PartOk v
 len:s.size≤100
 pre:(!decide (9≤s.size) || !(s.extract 0 9).toList == ([103,111,112,107,103,46,105,110,47]:List UInt8))=true
def SaysPath (s:ByteArray) (w:World) (e:Ending) (w':World):Prop:=(∃ b,e=.returned (.bool b)∧(b=true→PathF s))∧Below w.heap.size w w'
theorem cutL_pos (s:ByteArray) (c:Nat):0 < (cutL s c).length:=by simp [cutL]
theorem cutOut_str (s:ByteArray) (c k:Nat):∀ v ∈ cutOut s c k,∃ p:ByteArray,v=.string p∧p.size≤s.size:=by
 induction k with
 | zero=>intro v hv;cases hv
 | succ k ih =>
   intro v hv
   simp only [cutOut] at hv
   split at hv
   · rcases List.mem_append.1 hv with h | h
     · exact ih v h
     · simp at h;exact ⟨_,h,by simp [ByteArray.size_extract];omega⟩
   · exact ih v hv
theorem cutL_str (s:ByteArray) (c:Nat):∀ v ∈ cutL s c,∃ p:ByteArray,v=.string p∧p.size≤s.size:=by
 intro v hv
 rcases List.mem_append.1 hv with h | h
 · exact cutOut_str s c _ v h
 · simp at h;exact ⟨_,h,by simp [ByteArray.size_extract]⟩
theorem empty_of_size {p:ByteArray} (h:p.size=0):p.toList.isEmpty=true:=by
 rw [Lib.toList_data]
 rcases p with ⟨⟨l⟩⟩
 cases l with
 | nil=>rfl
 | cons a l=>simp [ByteArray.size] at h
theorem full_of_size {p:ByteArray} {n:Nat} (h:p.size=n+1):p.toList.isEmpty=false:=by
 rw [Lib.toList_data]
 rcases p with ⟨⟨l⟩⟩
 cases l with
 | nil=>simp [ByteArray.size] at h
 | cons a l=>rfl
set_option maxHeartbeats 4000000 in
theorem pathOk_any (s:ByteArray) (w:World) (hs:s.size≤2147483647):Calls Tryz.prog 9 #[.string s] w (SaysPath s w):=by
 have no:∀ w',Below w.heap.size w w'→SaysPath s w (.returned (.bool false)) w':=fun w' h=>⟨⟨false,rfl,fun h=>by cases h⟩,h⟩
 have NO:=hide no
 clear no
 go_enter Tryz.func9,Tryz.ntmps9
 go_wp2_with fail
 go_loopg [3] s.size (fun k v3 wr=>wr=w∧∃ j:Nat,j+k=s.size∧v3=.int .i64 (j:Int)∧Hid (∀ i,i < j→pch (bt s i)=true))
 case atStart=>exact ⟨rfl,0,by omega,rfl,hide (fun i h=>by omega)⟩
 case round =>
   obtain ⟨rfl,j,hj,rfl,HN⟩:=hrel
   rcases Nat.lt_or_ge j s.size with hlt | hge
   · have hget:(s[j]'hlt).toNat=bt s j:=bt_get s j hlt
     have hnext:pch (bt s j)=true→Hid (∀ i,i < j+1→pch (bt s i)=true):=fun h=>hide (fun i hi=>by
       rcases Nat.lt_or_ge i j with h2 | h2
       · exact HN.out i h2
       · obtain rfl:i=j:=by omega
         exact h)
     have HX:=hide hnext
     clear hnext
     rcases hl:letB (bt s j) with _ | _
     · by_cases h46:bt s j=46
       · have hp:pch (bt s j)=true:=by unfold pch;rw [h46];rfl
         have g:((bt s j:Int) != 46)=false:=by rw [h46];rfl
         have HP:=hide hp
         have HL:=hide hl
         clear hl hp h46
         go_wp2_with fail
         refine (letter_b (bt s j) false _ HL.out).mono ?_
         rintro e w1 ⟨rfl,rfl⟩
         go_wp2_with fail
         go_roundg (s.size - (j+1))
         case measure=>omega
         case rel=>exact ⟨rfl,j+1,by omega,by simp,HX.out HP.out⟩
       · by_cases h47:bt s j=47
         · have hp:pch (bt s j)=true:=by unfold pch;rw [h47];rfl
           have g:((bt s j:Int) != 46)=true:=by rw [h47];rfl
           have g':((bt s j:Int) != 47)=false:=by rw [h47];rfl
           have HP:=hide hp
           have HL:=hide hl
           clear hl hp h46 h47
           go_wp2_with fail
           refine (letter_b (bt s j) false _ HL.out).mono ?_
           rintro e w1 ⟨rfl,rfl⟩
           go_wp2_with fail
           go_roundg (s.size - (j+1))
           case measure=>omega
           case rel=>exact ⟨rfl,j+1,by omega,by simp,HX.out HP.out⟩
         · have g:((bt s j:Int) != 46)=true:=by simp only [bne_iff_ne,ne_eq];omega
           have g':((bt s j:Int) != 47)=true:=by simp only [bne_iff_ne,ne_eq];omega
           have HL:=hide hl
           clear hl h46 h47
           go_wp2_with fail
           refine (letter_b (bt s j) false _ HL.out).mono ?_
           rintro e w1 ⟨rfl,rfl⟩
           go_wp2_with fail
           go_ret
           exact NO.out _ (Below.refl _ _)
     · have hp:pch (bt s j)=true:=by unfold pch;rw [hl];rfl
       have HP:=hide hp
       have HL:=hide hl
       clear hl hp
       go_wp2_with fail
       refine (letter_b (bt s j) true _ HL.out).mono ?_
       rintro e w1 ⟨rfl,rfl⟩
       go_wp2_with fail
       go_roundg (s.size - (j+1))
       case measure=>omega
       case rel=>exact ⟨rfl,j+1,by omega,by simp,HX.out HP.out⟩
   · obtain rfl:j=s.size:=by omega
     go_wp2_with fail
     refine (cut_any s _ hs).mono ?_
     rintro e w1 ⟨v,rfl,hb1,ho⟩
     obtain ⟨g,cap,rfl⟩:=owns_form (n:=(cutL s 47).length - 1) (by have:=cutL_pos s 47;rw [show (cutL s 47).length - 1+1=(cutL s 47).length from by omega];exact ho)
     have hn1:(cutL s 47).length - 1+1=(cutL s 47).length:=by have:=cutL_pos s 47;omega
     rw [hn1]
     have hcell:∀ i (hi:i < (cutL s 47).length),w1.cell? ⟨g,i,none⟩=some ((cutL s 47)[i]):=by
       intro i hi
       rw [hn1] at ho
       rw [ho.cellAt i (by omega),List.getElem?_eq_getElem hi]
     have HB:=hide hb1
     have HCELL:=hide hcell
     have hNle:(cutL s 47).length≤s.size+1:=by have:=cutOut_le s 47 s.size;simp [cutL];omega
     clear hb1 ho hn1 hcell
     go_wp2_with fail
     go_loopg [32] (cutL s 47).length (fun k v32 wr=>wr=w1∧∃ j:Nat,j+k=(cutL s 47).length∧v32=.int .i64 (j:Int)∧Hid (∀ i (hi:i < (cutL s 47).length),i < j→PartOk (cutL s 47)[i]))
     case atStart=>exact ⟨rfl,0,by omega,rfl,hide (fun i hi h=>by omega)⟩
     case round =>
       obtain ⟨rfl,j,hj,rfl,HN2⟩:=hrel
       rcases Nat.lt_or_ge j (cutL s 47).length with hlt | hge
       · obtain ⟨p,hp,hps⟩:=cutL_str s 47 _ (List.getElem_mem hlt)
         have hc:wr.cell? ⟨g,j,none⟩=some (.string p):=by rw [HCELL.out j hlt,hp]
         have HPP:=hide hp
         clear hp
         rcases hn:p.size with _ | m
         · have he:=empty_of_size hn
           clear hn
           go_wp2_with fail
           go_ret
           exact NO.out _ HB.out
         · have he:=full_of_size hn
           have h0:(p[0]'(by omega)).toNat=bt p 0:=bt_get p 0 (by omega)
           have hm:(p[m]'(by omega)).toNat=bt p m:=bt_get p m (by omega)
           have hwr:IntKind.i64.wrap (m:Int)=(m:Int):=Go.IntWalk.i64_in _ (by omega)
           have HNN:=hide hn
           rcases hl0:letB (bt p 0) with _ | _
           · have HL:=hide hl0
             clear hl0
             go_wp2_with fail
             refine (letter_b (bt p 0) false _ HL.out).mono ?_
             rintro e w2 ⟨rfl,rfl⟩
             go_wp2_with fail
             go_ret
             exact NO.out _ HB.out
           · have HL:=hide hl0
             clear hl0
             go_wp2_with fail
             refine (letter_b (bt p 0) true _ HL.out).mono ?_
             rintro e w2 ⟨rfl,rfl⟩
             go_wp2_with fail
             rcases hlm:letB (bt p m) with _ | _
             · have HLM:=hide hlm
               clear hlm
               refine (letter_b (bt p m) false _ HLM.out).mono ?_
               rintro e w2 ⟨rfl,rfl⟩
               go_wp2_with fail
               go_ret
               exact NO.out _ HB.out
             · have HLM:=hide hlm
               clear hlm
               refine (letter_b (bt p m) true _ HLM.out).mono ?_
               rintro e w2 ⟨rfl,rfl⟩
               go_wp2_with fail
               go_roundg ((cutL s 47).length - (j+1))
               case measure=>omega
               case rel =>
                 refine ⟨rfl,j+1,by omega,by simp,hide (fun i hi hlt2=>?_)⟩
                 rcases Nat.lt_or_ge i j with h2 | h2
                 · exact HN2.out i hi h2
                 · obtain rfl:i=j:=by omega
                   exact ⟨p,m,HPP.out,HNN.out,HL.out,HLM.out⟩
       · obtain rfl:j=(cutL s 47).length:=by omega
         by_cases h100:(s.size:Int)≤100
         · go_wp2_with fail
           refine (begins_any s ⟨#[103,111,112,107,103,46,105,110,47]⟩ _ (by omega) (by decide)).mono ?_
           rintro e w2 ⟨rfl,rfl⟩
           go_wp2_with fail
           go_ret
           refine ⟨⟨_,rfl,fun hb=>⟨HN.out,fun v hv=>?_,by omega,?_⟩⟩,HB.out⟩
           · obtain ⟨i,hi,rfl⟩:=List.getElem_of_mem hv
             exact HN2.out i hi hi
           · exact hb
         · go_wp2_with fail
           go_ret
           exact NO.out _ HB.out
end
section
open Go.RowKit Go.Proofs
def wdc (c:Nat):Bool:=letB c || digB c || c == 46
structure WordF (s:ByteArray):Prop where
 chars:∀ k,k < s.size→wdc (bt s k)=true
 pos:0 < s.size
 len:s.size≤50
def SaysWord (s:ByteArray) (w:World) (e:Ending) (w':World):Prop:=(∃ b,e=.returned (.bool b)∧(b=true→WordF s))∧w'=w
set_option maxHeartbeats 4000000 in
theorem wordOk_any (s:ByteArray) (w:World) (hs:s.size≤2147483647):Calls Tryz.prog 14 #[.string s] w (SaysWord s w):=by
 have no:SaysWord s w (.returned (.bool false)) w:=⟨⟨false,rfl,fun h=>by cases h⟩,rfl⟩
 have NO:=hide no
 clear no
 go_enter Tryz.func14,Tryz.ntmps14
 go_wp2_with fail
 go_loopg [3] s.size (fun k v3 wr=>wr=w∧∃ j:Nat,j+k=s.size∧v3=.int .i64 (j:Int)∧Hid (∀ i,i < j→wdc (bt s i)=true))
 case atStart=>exact ⟨rfl,0,by omega,rfl,hide (fun i h=>by omega)⟩
 case round =>
   obtain ⟨rfl,j,hj,rfl,HN⟩:=hrel
   rcases Nat.lt_or_ge j s.size with hlt | hge
   · have hget:(s[j]'hlt).toNat=bt s j:=bt_get s j hlt
     have hnext:wdc (bt s j)=true→Hid (∀ i,i < j+1→wdc (bt s i)=true):=fun h=>hide (fun i hi=>by
       rcases Nat.lt_or_ge i j with h2 | h2
       · exact HN.out i h2
       · obtain rfl:i=j:=by omega
         exact h)
     have HX:=hide hnext
     clear hnext
     rcases hl:letB (bt s j) with _ | _
     · rcases hd:digB (bt s j) with _ | _
       · by_cases h46:bt s j=46
         · have hp:wdc (bt s j)=true:=by unfold wdc;rw [h46];rfl
           have g:((bt s j:Int) != 46)=false:=by rw [h46];rfl
           have HP:=hide hp
           have HL:=hide (And.intro hl hd)
           clear hl hd hp h46
           go_wp2_with fail
           refine (letter_b (bt s j) false _ HL.out.1).mono ?_
           rintro e w1 ⟨rfl,rfl⟩
           go_wp2_with fail
           refine (digit_b (bt s j) false _ HL.out.2).mono ?_
           rintro e w1 ⟨rfl,rfl⟩
           go_wp2_with fail
           go_roundg (s.size - (j+1))
           case measure=>omega
           case rel=>exact ⟨rfl,j+1,by omega,by simp,HX.out HP.out⟩
         · have g:((bt s j:Int) != 46)=true:=by simp only [bne_iff_ne,ne_eq];omega
           have HL:=hide (And.intro hl hd)
           clear hl hd h46
           go_wp2_with fail
           refine (letter_b (bt s j) false _ HL.out.1).mono ?_
           rintro e w1 ⟨rfl,rfl⟩
           go_wp2_with fail
           refine (digit_b (bt s j) false _ HL.out.2).mono ?_
           rintro e w1 ⟨rfl,rfl⟩
           go_wp2_with fail
           go_ret
           exact NO.out
       · have hp:wdc (bt s j)=true:=by unfold wdc;rw [hd];simp
         have HP:=hide hp
         have HL:=hide (And.intro hl hd)
         clear hl hd hp
         go_wp2_with fail
         refine (letter_b (bt s j) false _ HL.out.1).mono ?_
         rintro e w1 ⟨rfl,rfl⟩
         go_wp2_with fail
         refine (digit_b (bt s j) true _ HL.out.2).mono ?_
         rintro e w1 ⟨rfl,rfl⟩
         go_wp2_with fail
         go_roundg (s.size - (j+1))
         case measure=>omega
         case rel=>exact ⟨rfl,j+1,by omega,by simp,HX.out HP.out⟩
     · have hp:wdc (bt s j)=true:=by unfold wdc;rw [hl];rfl
       have HP:=hide hp
       have HL:=hide hl
       clear hl hp
       go_wp2_with fail
       refine (letter_b (bt s j) true _ HL.out).mono ?_
       rintro e w1 ⟨rfl,rfl⟩
       go_wp2_with fail
       go_roundg (s.size - (j+1))
       case measure=>omega
       case rel=>exact ⟨rfl,j+1,by omega,by simp,HX.out HP.out⟩
   · obtain rfl:j=s.size:=by omega
     rcases hn:s.size with _ | m
     · have he:=empty_of_size hn
       go_wp2_with fail
       go_ret
       exact NO.out
     · have he:=full_of_size hn
       by_cases h50:((m:Int)+1)≤50
       · have HNN:=hide hn
         go_wp2_with fail
         go_ret
         exact ⟨⟨true,rfl,fun _=>⟨HN.out,by rw [HNN.out];omega,by rw [HNN.out];omega⟩⟩,rfl⟩
       · go_wp2_with fail
         go_ret
         exact NO.out
end
end Go.Proofs.YtifkpibjeamfkaaGreatFmt
