/-
  The reference's RequireText, VersionText, RetractText.
  The reference's section: items as statements.
-/
import Derived.Test.YtifkpibjeamfkaaGreatFmtZ42
import Derived.Test.YtifkpibjeamfkaaGreatFmtZ15
import Derived.Deep.AppendSrc
import Derived.Deep.Upon
set_option linter.unusedVariables false
set_option linter.unusedSimpArgs false
set_option maxRecDepth 100000
namespace Go.Proofs.YtifkpibjeamfkaaGreatFmt
section
open Go.RowKit Go.Proofs
def comT:Option (List UInt8 × List UInt8)→List UInt8
 | none=>[]
 | some (g,t)=>g++t
def itmT (i:Itm):List UInt8:=i.hd++(wsTxt i.tl++comT i.com)
theorem mkS_eq {s:ByteArray} {l:List UInt8} (h:bsl s=l):s=mkS l:=by rw [← h,mkS_bsl]
def StrR (l:List UInt8) (w:World) (e:Ending) (w':World):Prop:=e=.returned (.string (mkS l))∧Below w.heap.size w w'
theorem strR_of {l:List UInt8} {w w':World} {s:ByteArray} (hb:Below w.heap.size w w') (h:bsl s=l):StrR l w (.returned (.string s)) w':=⟨by rw [mkS_eq h],hb⟩
theorem wsTxt_cons (x:Wt) (l:List Wt):wsTxt (x :: l)=x.g++(x.u++wsTxt l):=by simp [wsTxt,Wt.txt]
theorem wsTxt_nil:wsTxt []=[]:=rfl
theorem wsTxt_app (a b:List Wt):wsTxt (a++b)=wsTxt a++wsTxt b:=by simp [wsTxt]
theorem req_txt (r:CReq):itmT (reqI r)=r.p++(32 :: (r.v++(if r.ind then 32 :: indT else []))):=by
 unfold itmT reqI
 cases r.ind <;> simp [wsTxt_cons,wsTxt_nil,comT]
def verT (p v:List UInt8):List UInt8:=p++(if v=[] then [] else 32 :: v)
theorem oneW_txt (v:List UInt8):wsTxt (oneW v)=if v=[] then [] else 32 :: v:=by
 unfold oneW
 split <;> simp [wsTxt_cons,wsTxt_nil]
theorem exc_txt (r:CVer):itmT (excI r)=verT r.p r.v:=by simp [itmT,excI,comT,verT,oneW_txt]
theorem rep_txt (r:CRep):itmT (repI r)=verT r.op r.ov++(32 :: 61 :: 62 :: 32 :: verT r.np r.nv):=by
 simp [itmT,repI,comT,verT,wsTxt_app,wsTxt_cons,oneW_txt,arW]
theorem ret_txt (r:CRet):itmT (retI r)=if r.lo=r.hi then r.lo else 91 :: (r.lo++(44 :: 32 :: (r.hi++[93]))):=by
 unfold itmT retI
 split <;> simp [wsTxt_cons,wsTxt_nil,comT]
theorem pth_txt (p:List UInt8):itmT (pthI p)=p:=by simp [itmT,pthI,comT,wsTxt_nil]
set_option maxHeartbeats 2000000 in
theorem requireText_any (r:CReq) (w:World) (h1:r.p.length≤1000) (h2:r.v.length≤1000):Calls Tryz.prog 34 #[.agg #[.string (mkS r.p),.string (mkS r.v),.bool r.ind]] w (StrR (itmT (reqI r)) w):=by
 obtain ⟨s1,hs1⟩:∃ s,s=mkS r.p:=⟨_,rfl⟩
 obtain ⟨s2,hs2⟩:∃ s,s=mkS r.v:=⟨_,rfl⟩
 have l1:s1.size≤1000:=by rw [hs1,mkS_size];exact h1
 have l2:s2.size≤1000:=by rw [hs2,mkS_size];exact h2
 rw [← hs1,← hs2]
 have HQ:=hide (And.intro hs1 hs2)
 have HT:=hide (req_txt r)
 clear hs1 hs2
 cases hb:r.ind with
 | true =>
   have HB:=hide hb
   clear hb
   go_enter Tryz.func34,Tryz.ntmps34
   go_wp2_with fail
   go_ret
   refine strR_of ((Below.refl _ w).alloc (Nat.le_refl _) _) ?_
   rw [HT.out,HB.out,HQ.out.1,HQ.out.2]
   simp only [bsl_append,bsl_mkSv]
   simp [bsl,indT]
 | false =>
   have HB:=hide hb
   clear hb
   go_enter Tryz.func34,Tryz.ntmps34
   go_wp2_with fail
   go_ret
   refine strR_of ((Below.refl _ w).alloc (Nat.le_refl _) _) ?_
   rw [HT.out,HB.out,HQ.out.1,HQ.out.2]
   simp only [bsl_append,bsl_mkSv]
   simp [bsl]
set_option maxHeartbeats 2000000 in
theorem versionText_any (p v:List UInt8) (w:World) (h1:p.length≤1000) (h2:v.length≤1000):Calls Tryz.prog 35 #[.agg #[.string (mkS p),.string (mkS v)]] w (StrR (verT p v) w):=by
 obtain ⟨z,hz,hn,hm⟩:=empty_bool v
 obtain ⟨s1,hs1⟩:∃ s,s=mkS p:=⟨_,rfl⟩
 obtain ⟨s2,hs2⟩:∃ s,s=mkS v:=⟨_,rfl⟩
 have l1:s1.size≤1000:=by rw [hs1,mkS_size];exact h1
 have l2:s2.size≤1000:=by rw [hs2,mkS_size];exact h2
 rw [← hs2] at hz
 rw [← hs1,← hs2]
 have HQ:=hide (And.intro hs1 hs2)
 have HN:=hide (And.intro hn hm)
 clear hs1 hs2 hn hm
 cases z with
 | true =>
   have HE:=hide (HN.out.1 rfl)
   go_enter Tryz.func35,Tryz.ntmps35
   go_wp2_with fail
   go_ret
   refine strR_of ((Below.refl _ w).alloc (Nat.le_refl _) _) ?_
   rw [HQ.out.1,bsl_mkSv,HE.out]
   simp [verT]
 | false =>
   have HE:=hide (HN.out.2 rfl)
   go_enter Tryz.func35,Tryz.ntmps35
   go_wp2_with fail
   go_ret
   refine strR_of ((Below.refl _ w).alloc (Nat.le_refl _) _) ?_
   rw [HQ.out.1,HQ.out.2]
   simp only [bsl_append,bsl_mkSv,verT,if_neg HE.out]
   simp [bsl]
theorem mkS_beq2 (a b:List UInt8):((mkS a).toList == (mkS b).toList)=decide (a=b):=by
 rw [Lib.toList_data,Lib.toList_data,mkS_list,mkS_list]
 by_cases h:a=b
 · subst h;simp
 · simp [h]
set_option maxHeartbeats 2000000 in
theorem retractText_any (r:CRet) (w:World) (h1:r.lo.length≤1000) (h2:r.hi.length≤1000):Calls Tryz.prog 36 #[.agg #[.string (mkS r.lo),.string (mkS r.hi),.string (mkS r.why)]] w (StrR (itmT (retI r)) w):=by
 rw [ret_txt]
 have hbq:=mkS_beq2 r.lo r.hi
 obtain ⟨s1,hs1⟩:∃ s,s=mkS r.lo:=⟨_,rfl⟩
 obtain ⟨s2,hs2⟩:∃ s,s=mkS r.hi:=⟨_,rfl⟩
 have l1:s1.size≤1000:=by rw [hs1,mkS_size];exact h1
 have l2:s2.size≤1000:=by rw [hs2,mkS_size];exact h2
 rw [← hs1,← hs2] at hbq ⊢
 have HQ:=hide (And.intro hs1 hs2)
 clear hs1 hs2
 by_cases hq:r.lo=r.hi
 · have hbq':(s1.toList == s2.toList)=true:=by rw [hbq];simpa using hq
   have HB:=hide hq
   clear hbq hq
   go_enter Tryz.func36,Tryz.ntmps36
   go_wp2_with fail
   go_ret
   refine strR_of ((Below.refl _ w).alloc (Nat.le_refl _) _) ?_
   rw [HQ.out.1,bsl_mkSv]
   exact HB.out
 · have hbq':(s1.toList == s2.toList)=false:=by rw [hbq];simpa using hq
   have HB:=hide hq
   clear hbq hq
   go_enter Tryz.func36,Tryz.ntmps36
   go_wp2_with fail
   go_ret
   refine strR_of ((Below.refl _ w).alloc (Nat.le_refl _) _) ?_
   rw [HQ.out.1,HQ.out.2]
   simp only [bsl_append,bsl_mkSv]
   simp [bsl]
end
section
open Go.RowKit Go.Proofs Go.Deep
theorem wpList_append_any {P:Program} {w:World} {ops:Array Oper} {rest:List Oper} {o:Oper} {a:Act} {Q:Exit→Act→World→Prop} (hgd:o.guard=none) (s x:Operand) (t:TypeId)
   (ho:o.op=.call { callee:=.builtin .append,args:=#[s,x],argTypes:=#[t,t] })
   (base:Nat) (e:TypeId) (i:TypeInfo) (z:Value) (size bytes:Nat) (ht:P.underlying t=some (.slice e)) (hi:P.info? e=some i) (hz:i.zero=some z)
   (hsize:i.size=size) (hby:i.bytes=bytes) (hzs:z.cells.size=size) (hsz:0 < size)
   (v:Value) (n:Nat) (xs:List Value) (hs:a.eval s=v) (hown:w.ownsRow base e size v n xs)
   (base2:Nat) (x2:Value) (m:Nat) (news:List Value) (hx:a.eval x=x2) (hown2:w.ownsRow base2 e size x2 m news) (h1:∀ u ∈ news,u.oneCell'=true)
   (h63:n+m≤maxLen) (hbytes:(n+m) * bytes≤140737488355328) (hbase:base≤w.heap.size)
   (h:∀ v' w',w'.ownsRow base e size v' (n+m) (xs++news)→Ku base (fun _ u=>u=e) w w'→wpList P ops Q rest (a.put o.dst v') w'):wpList P ops Q (o :: rest) a w:=by
 rcases Nat.eq_zero_or_pos m with rfl | hm
 · have hnil:news=[]:=List.length_eq_zero_iff.1 (by simpa using hown2.1)
   subst hnil
   refine wpList_plain hgd fun K hK=>?_
   have hrun:(Builtin.append_ #[t,t] o.type #[v,x2]).run P w=.ok v w:=by
     have hsrc:Src P i.size t x2 0 [] w:=by
       rcases hown2.2 with ⟨rfl,_⟩ | ⟨g,cap,cur,rfl,_⟩
       · exact Src.ofNil w ht 0
       · exact Src.ofSlice w ht _ _ _ [] (by simp) (fun j u hj=>by simp at hj) (fun u hu=>by cases hu)
     rcases hown.2 with ⟨rfl,_⟩ | ⟨g,cap,cur,rfl,_,_,hc,_⟩
     · exact run_append_nothing w t t _ e i ht hi none 0 0 (Nat.le_refl _) x2 hsrc
     · exact run_append_nothing w t t _ e i ht hi _ _ _ hc x2 hsrc
   unfold Oper.wp
   simp [execOp,ho,resolve,invoke,builtin,hs,hx,hrun,Result.andThen]
   exact hK _ _ (h v w (by simpa using hown) (Ku.refl _ _ _))
 · rcases hown2.2 with ⟨_,h0⟩ | ⟨g,cap,cur,rfl,_,hh,hc1,hc2,hc3,hc4⟩
   · omega
   · refine wpList_append_lies w hgd s x t ho base e i z size bytes ht hi hz hsize hby hzs hsz v n xs hs hown ⟨g,0,none⟩ m cap news hx hown2.1 (fun j u hj=>?_) h1 hm h63 hbytes hbase w.heap.size rfl (fun g' cap' w' h2 h3 h4 h5=>h _ w' h2 (Ku.of_append hown h3 hbase (fun _ _=>rfl)))
     have hjl:=(List.getElem?_eq_some_iff.1 hj).1
     have e1:(⟨g,0,none⟩:Addr).add j=⟨g,j,none⟩:=by simp [Addr.add_lit]
     rw [e1,hown2.cellAt j (by rw [← hown2.1];exact hjl)]
     exact hj
def itV (x:List UInt8 × List UInt8):List Value:=[.string (mkS x.1),.string (mkS x.2)]
def whyT (y:List UInt8):List UInt8:=if y=[] then [] else 47 :: 47 :: 32 :: (y++[10])
def stmT (v:List UInt8) (x:List UInt8 × List UInt8):List UInt8:=whyT x.1++(v++(32 :: (x.2++[10])))
def lnT1 (x:List UInt8 × List UInt8):List UInt8:=(if x.1=[] then [] else 9 :: whyT x.1)++(9 :: (x.2++[10]))
def lnsT (is:List (List UInt8 × List UInt8)):List UInt8:=is.flatMap lnT1
def secS (v:List UInt8) (is:List (List UInt8 × List UInt8)) (blk:Bool):List (List UInt8) :=
 if blk=true∧is≠[] then [v++(32 :: 40 :: 10 :: (lnsT is++[41,10]))] else is.map (stmT v)
def SecR (l:List (List UInt8)) (w:World) (e:Ending) (w':World):Prop:=∃ u,e=.returned u∧Below w.heap.size w w'∧w'.ownsRow w.heap.size 9 1 u l.length (l.map strL)
theorem lnsT_take {is:List (List UInt8 × List UInt8)} {j:Nat} {x:List UInt8 × List UInt8} (h:is[j]?=some x):lnsT (is.take (j+1))=lnsT (is.take j)++lnT1 x:=by
 rw [List.take_add_one,h];simp [lnsT]
structure ScI (w wr:World) (v:List UInt8) (is:List (List UInt8 × List UInt8)) (j:Nat) (u:Value) (L:ByteArray):Prop where
 below:Below w.heap.size w wr
 own:wr.ownsRow w.heap.size 9 1 u j ((is.take j).map (fun x=>strL (stmT v x)))
 lines:bsl L=lnsT (is.take j)
theorem own_step {w3:World} {N j:Nat} {u:Value} {is:List (List UInt8 × List UInt8)} {v:List UInt8} {x:List UInt8 × List UInt8} {S:ByteArray} (h:w3.ownsRow N 9 1 u (j+1) ((is.take j).map (fun x=>strL (stmT v x))++[.string S])) (hr:is[j]?=some x) (hs:bsl S=stmT v x) :
   w3.ownsRow N 9 1 u (j+1) ((is.take (j+1)).map (fun x=>strL (stmT v x))):=by
 rw [List.take_add_one,hr]
 simp only [Option.toList_some,List.map_append,List.map_cons,List.map_nil]
 rw [← hs]
 unfold strL at h ⊢
 rw [mkS_bsl]
 exact h
theorem lit1 (a:UInt8):(⟨#[a]⟩:ByteArray).size=1:=rfl
theorem lit3 (a b c:UInt8):(⟨#[a,b,c]⟩:ByteArray).size=3:=rfl
theorem own_one {w W:World} {S:ByteArray} {l:List UInt8} (h:w.heap.size≤W.heap.size) (hs:bsl S=l):(W.alloc (Obj.cells #[.string S] 9)).ownsRow w.heap.size 9 1 (.slice (some ⟨W.heap.size,0,none⟩) 1 1) [l].length ([l].map strL):=by
 have:=owns_new W w.heap.size 9 #[.string S] h (by simp [maxLen])
 have e:strL l=.string S:=by unfold strL;rw [← hs,mkS_bsl]
 simpa [e] using this
theorem size_app (a b:ByteArray):(a++b).size=a.size+b.size:=by rw [← bsl_len,bsl_append,List.length_append,bsl_len,bsl_len]
set_option maxHeartbeats 8000000 in
theorem section_any (v:List UInt8) (is:List (List UInt8 × List UInt8)) (lv:Value) (blk:Bool) (w:World) (hl:RowV w lv 2 (is.map itV)) (hv:v.length≤20) (hn:is.length≤100) (hb:∀ x ∈ is,x.1.length≤2000∧x.2.length≤2000) :
   Calls Tryz.prog 33 #[.string (mkS v),lv,.bool blk] w (SecR (secS v is blk) w):=by
 obtain ⟨i0,hi0,hz0,hz1,hz2⟩:=info_parts Tryz.infoStr
 obtain ⟨a,cap,rfl,hcap,hx⟩:=hl
 simp only [List.length_map] at hcap hx ⊢
 obtain ⟨vs,hvs⟩:∃ s,s=mkS v:=⟨_,rfl⟩
 have lvs:vs.size≤20:=by rw [hvs,mkS_size];exact hv
 rw [← hvs]
 have HX:=hide hx
 have HV:=hide (show bsl vs=v from by rw [hvs];rfl)
 have HBd:=hide hb
 clear hx hvs hb hv
 go_enter Tryz.func33,Tryz.ntmps33
 go_wp2_with fail
 go_loopg [7,8,15] is.length (fun k v7 v8 v15 wr=>∃ (j:Nat) (L:ByteArray),j+k=is.length∧v15=.int .i64 (j:Int)∧v8=.string L∧L.size≤5000 * j∧Hid (ScI w wr v is j v7 L))
 case atStart =>
   refine ⟨0,⟨#[]⟩,by omega,by simp,rfl,by simp [ByteArray.size],hide ⟨(Below.refl _ _).alloc (Nat.le_refl _) _,?_,rfl⟩⟩
   have:=owns_new w w.heap.size 9 #[] (Nat.le_refl _) (by simp [maxLen])
   simpa using this
 case round =>
   obtain ⟨j,L,hj,rfl,rfl,hLs,HI⟩:=hrel
   rcases Nat.lt_or_ge j is.length with hlt | hge
   · have hr:is[j]?=some is[j]:=List.getElem?_eq_getElem hlt
     obtain ⟨b,o,rfl,hcell⟩:=HX.out j (itV is[j]) (by rw [List.getElem?_map,hr];rfl)
     have hbd:=HBd.out is[j] (List.getElem_mem hlt)
     have HR:=hide hr
     generalize is[j]=x at hcell hbd HR
     have c0:w.cell? ⟨b,o+j * 2,none⟩=some (.string (mkS x.1)):=hcell 0 _ rfl
     have c1:w.cell? ⟨b,o+j * 2+1,none⟩=some (.string (mkS x.2)):=hcell 1 _ rfl
     have k0:=(HI.out.below.cell (World.block_lt_of_cell? w _ c0)).trans c0
     have k1:=(HI.out.below.cell (World.block_lt_of_cell? w _ c1)).trans c1
     have bl:=HI.out.below.size
     have bl0:=World.block_lt_of_cell? w _ c0
     obtain ⟨z,hz,hzn,hzm⟩:=empty_bool x.1
     obtain ⟨s1,hs1⟩:∃ s,s=mkS x.1:=⟨_,rfl⟩
     obtain ⟨s2,hs2⟩:∃ s,s=mkS x.2:=⟨_,rfl⟩
     have l1:s1.size≤2000:=by rw [hs1,mkS_size];exact hbd.1
     have l2:s2.size≤2000:=by rw [hs2,mkS_size];exact hbd.2
     rw [← hs1] at k0 hz
     rw [← hs2] at k1
     have HQ:=hide (And.intro (show bsl s1=x.1 from by rw [hs1];rfl) (show bsl s2=x.2 from by rw [hs2];rfl))
     have HZ:=hide (And.intro hzn hzm)
     have j0:(0:Int)≤(j:Int):=by omega
     have j1:(j:Int) < (is.length:Int):=by omega
     have hm1:j+1≤maxLen:=by unfold maxLen;omega
     have hm2:(j+1) * 16≤140737488355328:=by omega
     have HM:=hide (And.intro hm1 hm2)
     clear hcell c0 c1 hs1 hs2 hbd hzn hzm hm1 hm2
     cases z with
     | true =>
       have HE:=hide (HZ.out.1 rfl)
       go_wp2_with (at_builtin;refine wpList_append_lies _ rfl _ _ _ rfl w.heap.size 9 i0 _ 1 16 Tryz.und_strs hi0 hz0 hz1 hz2 rfl (by omega) _ j _ (by rfl) ((HI.out.own.alloc _).alloc _) ⟨wr.heap.size+1,0,none⟩ 1 1 [_] (by rfl) (by rfl) (news_two _ _ _ _) (by simp [Value.oneCell']) (by omega) HM.out.1 HM.out.2 (by simp;omega) (wr.heap.size+1+1) (by simp) ?_;intro gg gc w3 hown3 hgrow3 hat3 hlt3;have hk3:=Ku.of_append (S:=fun _ u=>u=9) ((HI.out.own.alloc _).alloc _) hgrow3 (by simp;omega) (fun _ _=>rfl);have hb3:Below w.heap.size w w3:=((HI.out.below.alloc bl _).alloc (by simp;omega) _).trans hk3.below;have e0:w3.cell? ⟨wr.heap.size,1,none⟩=some (.string s2):=(((Blk.new wr 59 #[.string s1,.string s2]).alloc _).keptU hk3 (by decide)).cell 1 rfl;have HOWN:=hide hown3;have HB3:=hide hb3;clear hown3 hgrow3 hat3 hlt3 hk3 hb3)
       go_roundg (is.length - (j+1))
       case measure=>omega
       case rel =>
         refine ⟨j+1,_,by omega,by simp,rfl,?_,hide ⟨HB3.out,own_step HOWN.out HR.out ?_,?_⟩⟩
         · simp only [size_app,lit1,lit3]
           omega
         · simp only [bsl_append,stmT,whyT,HV.out,HQ.out.1,HQ.out.2]
           simp [HE.out,bsl]
         · simp only [bsl_append,HI.out.lines,lnsT_take HR.out,lnT1,whyT,HQ.out.1,HQ.out.2]
           simp [HE.out,bsl]
     | false =>
       have HE:=hide (HZ.out.2 rfl)
       have he11:((⟨#[47,47,32]⟩:ByteArray)++s1++⟨#[10]⟩).toList.isEmpty=false:=full_of_size (n:=s1.size+3) (by simp only [size_app,lit1,lit3];omega)
       go_wp2_with (at_builtin;refine wpList_append_lies _ rfl _ _ _ rfl w.heap.size 9 i0 _ 1 16 Tryz.und_strs hi0 hz0 hz1 hz2 rfl (by omega) _ j _ (by rfl) ((HI.out.own.alloc _).alloc _) ⟨wr.heap.size+1,0,none⟩ 1 1 [_] (by rfl) (by rfl) (news_two _ _ _ _) (by simp [Value.oneCell']) (by omega) HM.out.1 HM.out.2 (by simp;omega) (wr.heap.size+1+1) (by simp) ?_;intro gg gc w3 hown3 hgrow3 hat3 hlt3;have hk3:=Ku.of_append (S:=fun _ u=>u=9) ((HI.out.own.alloc _).alloc _) hgrow3 (by simp;omega) (fun _ _=>rfl);have hb3:Below w.heap.size w w3:=((HI.out.below.alloc bl _).alloc (by simp;omega) _).trans hk3.below;have e0:w3.cell? ⟨wr.heap.size,1,none⟩=some (.string s2):=(((Blk.new wr 59 #[.string s1,.string s2]).alloc _).keptU hk3 (by decide)).cell 1 rfl;have HOWN:=hide hown3;have HB3:=hide hb3;clear hown3 hgrow3 hat3 hlt3 hk3 hb3)
       go_roundg (is.length - (j+1))
       case measure=>omega
       case rel =>
         refine ⟨j+1,_,by omega,by simp,rfl,?_,hide ⟨HB3.out,own_step HOWN.out HR.out ?_,?_⟩⟩
         · simp only [size_app,lit1,lit3]
           omega
         · simp only [bsl_append,stmT,whyT,HV.out,HQ.out.1,HQ.out.2]
           rw [if_neg HE.out];simp [bsl]
         · simp only [bsl_append,HI.out.lines,lnsT_take HR.out,lnT1,whyT,HQ.out.1,HQ.out.2]
           rw [if_neg HE.out,if_neg HE.out];simp [bsl]
   · obtain rfl:j=is.length:=by omega
     have HB:=hide HI.out.below
     have hown:=HI.out.own
     have hlin:=HI.out.lines
     rw [List.take_length] at hown hlin
     have HOWN:=hide hown
     have HLIN:=hide hlin
     have bl:=HI.out.below.size
     clear hown hlin HI
     have hplain:blk=false∨is=[]→secS v is blk=is.map (stmT v):=fun h=>by
       unfold secS
       rw [if_neg]
       rintro ⟨h1,h2⟩
       rcases h with h | h
       · rw [h] at h1;cases h1
       · exact h2 h
     have HPL:=hide hplain
     clear hplain
     cases blk with
     | false =>
       have HE:=hide (HPL.out (Or.inl rfl))
       go_wp2_with fail
       go_ret
       refine ⟨_,rfl,HB.out,?_⟩
       rw [HE.out,List.length_map,List.map_map]
       exact HOWN.out
     | true =>
       rcases Nat.eq_zero_or_pos is.length with h0 | h0
       · have HE:=hide (HPL.out (Or.inr (List.length_eq_zero_iff.1 h0)))
         have h0':¬ (0:Int) < (is.length:Int):=by omega
         have H0:=hide h0
         clear h0
         go_wp2_with fail
         go_ret
         refine ⟨_,rfl,HB.out,?_⟩
         rw [HE.out,List.length_map,List.map_map]
         exact HOWN.out
       · have h0':(0:Int) < (is.length:Int):=by omega
         have HE:=hide (show secS v is true=[v++(32 :: 40 :: 10 :: (lnsT is++[41,10]))] from by
           unfold secS
           rw [if_pos ⟨rfl,by intro h;rw [h] at h0;simp at h0⟩])
         go_wp2_with fail
         go_ret
         refine ⟨_,rfl,HB.out.alloc bl _,?_⟩
         rw [HE.out]
         refine own_one bl ?_
         simp only [bsl_append,HV.out,HLIN.out]
         simp [bsl]
end
end Go.Proofs.YtifkpibjeamfkaaGreatFmt
