/-
  A content's document: it is one, it is not too long; its tokens and what is read of them.
  semver.parse at a canonical version, with a dash or without; CanonicalVersion, Major, Build there.
  parseVersion at any word; CheckPathMajor at v0 and v1; words that are read as they stand.
-/
import Derived.Test.YtifkpibjeamfkaaGreatFmtZ29
import Derived.Test.YtifkpibjeamfkaaGreatFmtZ14
set_option linter.unusedVariables false
set_option linter.unusedSimpArgs false
set_option maxRecDepth 100000
namespace Go.Proofs.YtifkpibjeamfkaaGreatFmt
section
open Go.RowKit Go.Proofs
theorem sep_of (c:UInt8) (B:List UInt8) (h:idB c.toNat=false):SepG (c :: B):=⟨by simp,by rw [ch_zero];exact h⟩
theorem sep_blank (u:List UInt8) (r:List Wt) (B:List UInt8):SepG (wsTxt (⟨[32],u⟩ :: r)++B):=by
 simp only [wsTxt,List.flatMap_cons,Wt.txt,List.cons_append,List.nil_append]
 exact sep_of _ _ (by decide)
theorem sep_end (B:List UInt8):SepG (wsTxt []++endTxt none):=sep_of 10 [] (by decide)
theorem sep_com (t:List UInt8):SepG (wsTxt []++endTxt (some ([32],t))):=by
 simp only [wsTxt,List.flatMap_nil,endTxt,List.cons_append,List.nil_append]
 exact sep_of _ _ (by decide)
theorem bl_nil:Bl []:=fun i h=>by simp at h
theorem bl_32:Bl [32]:=fun i h=>by
 obtain rfl:i=0:=by simp at h;omega
 exact Or.inl rfl
theorem bl_9:Bl [9]:=fun i h=>by
 obtain rfl:i=0:=by simp at h;omega
 exact Or.inr rfl
theorem ws_cons {x:Wt} {r:List Wt} {B:List UInt8} (hu:WdG x.u) (hg:Bl x.g) (hs:SepG (wsTxt r++B)) (hr:WsOk r B):WsOk (x :: r) B:=⟨hu,hg,fun _=>hs,hr⟩
def BlW (l:List Wt):Prop:=∀ x ∈ l,x.g=[32]∧WdG x.u
theorem sep_blw {l:List Wt} {B:List UInt8} (h:BlW l) (hB:SepG (wsTxt []++B)):SepG (wsTxt l++B):=by
 rcases l with _ | ⟨⟨g,u⟩,l⟩
 · exact hB
 · have:=(h ⟨g,u⟩ (List.mem_cons_self ..)).1
   simp only at this
   subst this
   exact sep_blank u l B
theorem ws_blw {l:List Wt} {B:List UInt8} (h:BlW l) (hB:SepG (wsTxt []++B)):WsOk l B:=by
 induction l with
 | nil=>trivial
 | cons x l ih =>
   have hx:=h x (List.mem_cons_self ..)
   have hl:BlW l:=fun y hy=>h y (List.mem_cons_of_mem _ hy)
   exact ws_cons hx.2 (by rw [hx.1];exact bl_32) (sep_blw hl hB) (ih hl)
theorem ok_none {l:List Wt} (h:WsOk l [10]):Dl.ok ⟨l,none⟩:=⟨h,fun g t e=>by cases e⟩
theorem ok_wordL {v p:List UInt8} (hv:WdG v) (hp:WdG p):(wordL v p).ok :=
 ok_none (ws_cons hv bl_nil (sep_blank p [] [10]) (ws_cons hp bl_32 (sep_end []) trivial))
theorem ok_blank:blank.ok:=ok_none trivial
theorem pun_wd (c:UInt8) (h:c.toNat=40∨c.toNat=41∨c.toNat=91∨c.toNat=93∨c.toNat=44):WdG [c]:=Or.inr ⟨rfl,by rw [ch_zero];exact h⟩
theorem ok_close:closeD.ok:=ok_none (ws_cons (pun_wd 41 (by decide)) bl_nil (sep_end []) trivial)
theorem ok_head {v:List UInt8} (hv:WdG v):(headD v).ok:=ok_none (ws_cons hv bl_nil (sep_blank _ [] [10]) (ws_cons (pun_wd 40 (by decide)) bl_32 (sep_end []) trivial))
theorem com_ind:ComOk [32] indT:=⟨bl_32,by decide,by decide,by decide,by decide⟩
theorem com_why {g w:List UInt8} (hg:Bl g) (hw:WhyL w):ComOk g (47 :: 47 :: 32 :: w):=by
 refine ⟨hg,by simp,rfl,rfl,fun i hi=>?_⟩
 match i with
 | 0=>exact ⟨by rw [ch_zero];decide,by rw [ch_zero];decide⟩
 | 1=>exact ⟨by rw [ch_cons,ch_zero];decide,by rw [ch_cons,ch_zero];decide⟩
 | 2=>exact ⟨by rw [ch_cons,ch_cons,ch_zero];decide,by rw [ch_cons,ch_cons,ch_zero];decide⟩
 | i+3 =>
   rw [ch_cons,ch_cons,ch_cons]
   have:=hw.chars i (by simp at hi;omega)
   exact ⟨this.1,this.2.1⟩
theorem ok_why {g w:List UInt8} (hg:Bl g) (hw:WhyL w):∀ d ∈ whyD g w,d.ok:=by
 intro d hd
 unfold whyD at hd
 split at hd
 · cases hd
 · obtain rfl:=List.mem_singleton.1 hd
   exact ⟨trivial,fun g' t e=>by cases e;exact com_why hg hw⟩
structure ItmT (i:Itm):Prop where
 hd:WdG i.hd
 ws:WsOk i.tl (endTxt i.com)
 sep:SepG (wsTxt i.tl++endTxt i.com)∨PunW i.hd
 com:∀ g t,i.com=some (g,t)→ComOk g t
 why:WhyL i.why
theorem why_nil:WhyL []:=⟨by simp,fun i h=>by simp at h⟩
theorem ItmT.okN {v:List UInt8} {i:Itm} (h:ItmT i) (hv:WdG v):∀ d ∈ itmN v i,d.ok:=by
 intro d hd
 simp only [itmN,List.mem_append,List.mem_cons,List.not_mem_nil,or_false] at hd
 rcases hd with hd | rfl | rfl
 · exact ok_why bl_nil h.why d hd
 · refine ⟨ws_cons hv bl_nil (sep_blank _ _ _) ⟨h.hd,bl_32,fun hk=>?_,h.ws⟩,h.com⟩
   rcases h.sep with hs | hp
   · exact hs
   · have:=kG_pun hp
     rw [hk] at this
     omega
 · exact ok_blank
theorem ItmT.okB {i:Itm} (h:ItmT i):∀ d ∈ itmB i,d.ok:=by
 intro d hd
 simp only [itmB,List.mem_append,List.mem_cons,List.not_mem_nil,or_false] at hd
 rcases hd with hd | rfl
 · exact ok_why bl_9 h.why d hd
 · refine ⟨⟨h.hd,bl_9,fun hk=>?_,h.ws⟩,h.com⟩
   rcases h.sep with hs | hp
   · exact hs
   · have:=kG_pun hp
     rw [hk] at this
     omega
theorem ok_secD {blk:Bool} {v:List UInt8} {is:List Itm} (hv:WdG v) (h:∀ i ∈ is,ItmT i):∀ d ∈ secD blk v is,d.ok:=by
 intro d hd
 unfold secD at hd
 split at hd
 · rcases is with _ | ⟨i,is⟩
   · cases hd
   · simp only [secB,List.mem_cons,List.mem_append,List.not_mem_nil,or_false,bodyD] at hd
     rcases hd with rfl | hd | rfl | rfl
     · exact ok_head hv
     · obtain ⟨j,hj,hd⟩:=List.mem_flatMap.1 hd
       exact (h j hj).okB d hd
     · exact ok_close
     · exact ok_blank
 · obtain ⟨j,hj,hd⟩:=List.mem_flatMap.1 hd
   exact (h j hj).okN hv d hd
theorem blw_one {v:List UInt8} (h:v=[]∨VerL v):BlW (oneW v):=by
 intro x hx
 unfold oneW at hx
 split at hx
 · cases hx
 · rename_i hne
   obtain rfl:=List.mem_singleton.1 hx
   exact ⟨rfl,(h.resolve_left hne).nice.wd⟩
theorem arW_wd:WdG arW:=Or.inl ⟨by decide,by
 intro i hi
 have:i=0∨i=1:=by simp [arW] at hi;omega
 rcases this with rfl | rfl
 · exact ⟨by decide,by decide,by decide⟩
 · refine ⟨by decide,?_,?_⟩ <;> rintro ⟨a,_⟩ <;> simp [arW] at a,by decide,by decide⟩
theorem itm_blw {i:Itm} (hd:NiceL i.hd) (hw:BlW i.tl) (hc:i.com=none∨∃ t,i.com=some ([32],t)∧ComOk [32] t) (hy:WhyL i.why):ItmT i:=by
 have hs:SepG (wsTxt []++endTxt i.com):=by
   rcases hc with hc | ⟨t,hc,_⟩
   · rw [hc];exact sep_end []
   · rw [hc];exact sep_com t
 refine ⟨hd.wd,ws_blw hw hs,Or.inl (sep_blw hw hs),fun g t e=>?_,hy⟩
 rcases hc with hc | ⟨t',hc,ho⟩
 · rw [hc] at e;cases e
 · rw [hc] at e;cases e;exact ho
theorem req_t {r:CReq} (h:PathF (mkS r.p)∧VerL r.v):ItmT (reqI r):=by
 refine itm_blw (pathF_nice h.1) (fun x hx=>?_) ?_ why_nil
 · obtain rfl:=List.mem_singleton.1 hx
   exact ⟨rfl,h.2.nice.wd⟩
 · cases hr:r.ind with
   | false=>left;simp [reqI,hr]
   | true=>right;exact ⟨indT,by simp [reqI,hr],com_ind⟩
theorem exc_t {r:CVer} (h:PathF (mkS r.p)∧VerL r.v):ItmT (excI r):=itm_blw (pathF_nice h.1) (blw_one (Or.inr h.2)) (Or.inl rfl) why_nil
theorem rep_t {r:CRep} (h:PathF (mkS r.op)∧(r.ov=[]∨VerL r.ov)∧NiceL r.np∧(r.nv=[]∨VerL r.nv)):ItmT (repI r):=by
 obtain ⟨h1,h2,h3,h4⟩:=h
 refine itm_blw (pathF_nice h1) (fun x hx=>?_) (Or.inl rfl) why_nil
 simp only [repI,List.mem_append,List.mem_cons] at hx
 rcases hx with hx | rfl | rfl | hx
 · exact blw_one h2 x hx
 · exact ⟨rfl,arW_wd⟩
 · exact ⟨rfl,h3.wd⟩
 · exact blw_one h4 x hx
theorem ret_t {r:CRet} (h:VerL r.lo∧VerL r.hi∧WhyL r.why):ItmT (retI r):=by
 obtain ⟨h1,h2,h3⟩:=h
 unfold retI
 split
 · exact itm_blw h1.nice (fun x hx=>by cases hx) (Or.inl rfl) h3
 · refine ⟨pun_wd 91 (by decide),?_,Or.inr ⟨rfl,(show ch [91] 0=40∨ch [91] 0=41∨ch [91] 0=91∨ch [91] 0=93∨ch [91] 0=44 by decide)⟩,fun g t e=>(nomatch e),h3⟩
   refine ws_cons h1.nice.wd bl_nil (sep_of 44 _ (by decide)) (ws_cons (pun_wd 44 (by decide)) bl_nil (sep_blank _ _ _) (ws_cons h2.nice.wd bl_32 (sep_of 93 _ (by decide)) (ws_cons (pun_wd 93 (by decide)) bl_nil (sep_end []) trivial)))
theorem pth_t {p:List UInt8} (h:NiceL p):ItmT (pthI p):=itm_blw h (fun x hx=>by cases hx) (Or.inl rfl) why_nil
theorem verb_wd:∀ v,v=moW∨v=goW∨v=tcW∨v=rqW∨v=exW∨v=rpW∨v=rtW∨v=toW∨v=igW→WdG v:=by
 intro v hv
 refine (nice_of v ?_ ?_ ?_).wd <;> rcases hv with rfl | rfl | rfl | rfl | rfl | rfl | rfl | rfl | rfl <;> decide
theorem map_t {α:Type} {f:α→Itm} {l:List α} (h:∀ x ∈ l,ItmT (f x)):∀ i ∈ l.map f,ItmT i:=fun i hi=>by
 obtain ⟨x,hx,rfl⟩:=List.mem_map.1 hi
 exact h x hx
theorem ok_optL {v p:List UInt8} (hv:WdG v) (hp:p=[]∨NiceL p):∀ d ∈ optL v p,d.ok:=by
 intro d hd
 unfold optL at hd
 split at hd
 · cases hd
 · rename_i hne
   simp only [List.mem_cons,List.not_mem_nil,or_false] at hd
   rcases hd with rfl | rfl
   · exact ok_wordL hv (hp.resolve_left hne).wd
   · exact ok_blank
theorem doc_ok (c:Cont) (blk:Bool) (hc:ContF c) {tv tp:List UInt8} (ht:WdG tv) (hp:NiceL tp):∀ d ∈ docOf c blk tv tp,d.ok:=by
 intro d hd
 simp only [docOf,bodyOf,List.mem_cons,List.mem_append,List.not_mem_nil,or_false] at hd
 rcases hd with rfl | rfl | hd | hd | (hd | hd | hd | hd | hd | hd) | rfl
 · exact ok_wordL (verb_wd _ (by simp)) (pathF_nice hc.mod).wd
 · exact ok_blank
 · exact ok_optL (verb_wd _ (by simp)) hc.go d hd
 · exact ok_optL (verb_wd _ (by simp)) hc.tc d hd
 · exact ok_secD (verb_wd _ (by simp)) (map_t (fun r hr=>req_t (hc.reqs r hr))) d hd
 · exact ok_secD (verb_wd _ (by simp)) (map_t (fun r hr=>exc_t (hc.excs r hr))) d hd
 · exact ok_secD (verb_wd _ (by simp)) (map_t (fun r hr=>rep_t (hc.reps r hr))) d hd
 · exact ok_secD (verb_wd _ (by simp)) (map_t (fun r hr=>ret_t (hc.rets r hr))) d hd
 · exact ok_secD (verb_wd _ (by simp)) (map_t (fun r hr=>pth_t (hc.tools r hr))) d hd
 · exact ok_secD (verb_wd _ (by simp)) (map_t (fun r hr=>pth_t (hc.igns r hr))) d hd
 · exact ok_wordL ht hp.wd
theorem docG_append (a b:List Dl):docG (a++b)=docG a++docG b:=by simp [docG]
theorem docG_cons (a:Dl) (b:List Dl):docG (a :: b)=a.txt++docG b:=by simp [docG]
def itmLen (i:Itm):Nat:=i.why.length+i.hd.length+(wsTxt i.tl).length+(endTxt i.com).length
theorem len_why (g w:List UInt8) (hg:g.length≤1):(docG (whyD g w)).length≤w.length+5:=by
 unfold whyD
 split
 · simp [docG]
 · simp [docG,Dl.txt,wsTxt,endTxt];omega
theorem len_itmN (v:List UInt8) (i:Itm) (hv:v.length≤9):(docG (itmN v i)).length≤itmLen i+16:=by
 have:=len_why [] i.why (by simp)
 rw [itmN,docG_append,List.length_append]
 have e:(docG [⟨⟨[],v⟩ :: ⟨[32],i.hd⟩ :: i.tl,i.com⟩,blank]).length=v.length+1+i.hd.length+(wsTxt i.tl).length+(endTxt i.com).length+1:=by
   simp [docG,Dl.txt,wsTxt,Wt.txt,blank,endTxt];omega
 rw [e]
 unfold itmLen
 omega
theorem len_itmB (i:Itm):(docG (itmB i)).length≤itmLen i+16:=by
 have:=len_why [9] i.why (by simp)
 rw [itmB,docG_append,List.length_append]
 have e:(docG [⟨⟨[9],i.hd⟩ :: i.tl,i.com⟩]).length=1+i.hd.length+(wsTxt i.tl).length+(endTxt i.com).length:=by
   simp [docG,Dl.txt,wsTxt,Wt.txt];omega
 rw [e]
 unfold itmLen
 omega
theorem len_flat {α:Type} {g:α→List Dl} {M:Nat} {l:List α} (h:∀ x ∈ l,(docG (g x)).length≤M):(docG (l.flatMap g)).length≤l.length * M:=by
 induction l with
 | nil=>simp [docG]
 | cons x l ih =>
   rw [List.flatMap_cons,docG_append,List.length_append,List.length_cons,Nat.add_mul]
   have h1:=h x (List.mem_cons_self ..)
   have h2:=ih (fun y hy=>h y (List.mem_cons_of_mem _ hy))
   omega
theorem len_secD {blk:Bool} {v:List UInt8} {is:List Itm} {M:Nat} (hv:v.length≤9) (hn:is.length≤100) (h:∀ i ∈ is,itmLen i+16≤M):(docG (secD blk v is)).length≤100 * M+20:=by
 have hm:is.length * M≤100 * M:=Nat.mul_le_mul_right _ hn
 unfold secD
 split
 · rcases is with _ | ⟨i,is⟩
   · simp [secB,docG]
   · have h1:=len_flat (g:=itmB) (M:=M) (l:=i :: is) (fun x hx=>Nat.le_trans (len_itmB x) (h x hx))
     simp only [secB]
     rw [docG_cons,docG_append,List.length_append,List.length_append]
     have e1:(headD v).txt.length=v.length+3:=by simp [headD,Dl.txt,wsTxt,Wt.txt,endTxt]
     have e2:(docG [closeD,blank]).length=3:=by decide
     rw [e1,e2]
     unfold bodyD
     omega
 · have h1:=len_flat (g:=itmN v) (M:=M) (l:=is) (fun x hx=>Nat.le_trans (len_itmN v x hv) (h x hx))
   unfold secN
   omega
theorem len_one (v:List UInt8):(wsTxt (oneW v)).length≤v.length+1:=by
 unfold oneW
 split
 · simp [wsTxt]
 · simp [wsTxt,Wt.txt]
theorem wsTxt_append (a b:List Wt):wsTxt (a++b)=wsTxt a++wsTxt b:=by simp [wsTxt]
theorem ver_len {v:List UInt8} (h:v=[]∨VerL v):v.length≤50:=by
 rcases h with rfl | h
 · simp
 · exact h.all.1
theorem map_len {α:Type} {f:α→Itm} {M:Nat} {l:List α} (h:∀ x ∈ l,itmLen (f x)+16≤M):∀ i ∈ l.map f,itmLen i+16≤M:=fun i hi=>by
 obtain ⟨x,hx,rfl⟩:=List.mem_map.1 hi
 exact h x hx
theorem len_optL {v p:List UInt8} (hv:v.length≤9) (hp:p=[]∨NiceL p):(docG (optL v p)).length≤1020:=by
 unfold optL
 split
 · simp [docG]
 · rename_i hne
   have:=(hp.resolve_left hne).len
   simp [docG,Dl.txt,wordL,blank,wsTxt,Wt.txt,endTxt];omega
theorem pathF_len {p:List UInt8} (h:PathF (mkS p)):p.length≤100:=by
 have e:bsl (mkS p)=p:=rfl
 have hl:(mkS p).size=p.length:=by rw [← bsl_len,e]
 have:=h.len
 omega
theorem doc_len (c:Cont) (blk:Bool) (hc:ContF c) {tv tp:List UInt8} (ht:tv.length≤9) (hp:NiceL tp):(docG (docOf c blk tv tp)).length≤700000:=by
 have l1:=len_secD (blk:=blk) (v:=rqW) (M:=200) (by decide) (by rw [List.length_map];exact hc.n1) (map_len (f:=reqI) (fun r hr=>by
   obtain ⟨h1,h2⟩:=hc.reqs r hr
   have:=pathF_len h1
   have:=h2.all.1
   have e:(endTxt (reqI r).com).length≤13:=by unfold reqI;split <;> simp [endTxt,indT]
   have e2:(wsTxt (reqI r).tl).length=r.v.length+1:=by simp [reqI,wsTxt,Wt.txt]
   unfold itmLen
   rw [e2]
   show 0+r.p.length+_+_+16≤_
   omega))
 have l2:=len_secD (blk:=blk) (v:=exW) (M:=200) (by decide) (by rw [List.length_map];exact hc.n2) (map_len (f:=excI) (fun r hr=>by
   obtain ⟨h1,h2⟩:=hc.excs r hr
   have:=pathF_len h1
   have:=h2.all.1
   have e2:=len_one r.v
   show 0+r.p.length+(wsTxt (oneW r.v)).length+1+16≤_
   omega))
 have l3:=len_secD (blk:=blk) (v:=rpW) (M:=1300) (by decide) (by rw [List.length_map];exact hc.n3) (map_len (f:=repI) (fun r hr=>by
   obtain ⟨h1,h2,h3,h4⟩:=hc.reps r hr
   have:=pathF_len h1
   have:=h3.len
   have e1:=len_one r.ov
   have e2:=len_one r.nv
   have:=ver_len h2
   have:=ver_len h4
   have e3:(wsTxt (repI r).tl).length=(wsTxt (oneW r.ov)).length+3+(r.np.length+1)+(wsTxt (oneW r.nv)).length:=by
     simp only [repI,wsTxt_append,List.length_append]
     simp [wsTxt,Wt.txt,arW];omega
   unfold itmLen
   rw [e3]
   show 0+r.op.length+_+1+16≤_
   omega))
 have l4:=len_secD (blk:=blk) (v:=rtW) (M:=1300) (by decide) (by rw [List.length_map];exact hc.n4) (map_len (f:=retI) (fun r hr=>by
   obtain ⟨h1,h2,h3⟩:=hc.rets r hr
   have:=h1.all.1
   have:=h2.all.1
   have:=h3.len
   unfold retI itmLen
   split <;> simp [wsTxt,Wt.txt,endTxt] <;> omega))
 have l5:=len_secD (blk:=blk) (v:=toW) (M:=1100) (by decide) (by rw [List.length_map];exact hc.n5) (map_len (f:=pthI) (fun p hr=>by
   have:=(hc.tools p hr).len
   show 0+p.length+0+1+16≤_
   omega))
 have l6:=len_secD (blk:=blk) (v:=igW) (M:=1100) (by decide) (by rw [List.length_map];exact hc.n6) (map_len (f:=pthI) (fun p hr=>by
   have:=(hc.igns p hr).len
   show 0+p.length+0+1+16≤_
   omega))
 have l7:=len_optL (v:=goW) (by decide) hc.go
 have l8:=len_optL (v:=tcW) (by decide) hc.tc
 have l9:(wordL moW c.mod).txt.length≤1010:=by
   have:=(pathF_nice hc.mod).len
   simp [wordL,Dl.txt,wsTxt,Wt.txt,endTxt,moW];omega
 have l10:(wordL tv tp).txt.length≤1012:=by
   have:=hp.len
   simp [wordL,Dl.txt,wsTxt,Wt.txt,endTxt];omega
 have l11:blank.txt.length=1:=by decide
 simp only [docOf,bodyOf,docG_cons,docG_append,List.length_append]
 have l12:(docG ([]:List Dl)).length=0:=rfl
 omega
theorem plsT_len {T:List UInt8} {ds:List Dl} {ls:List (List Tk × Tk)} (h:PlsOf T ds ls) (hok:∀ d ∈ ds,d.ok):(plsT ls).length≤(docG ds).length:=by
 induction h with
 | nil=>simp [plsT]
 | cons hp _ ih =>
   rename_i d l ds ls _
   have h1:=ih (fun x hx=>hok x (List.mem_cons_of_mem _ hx))
   have hd:=hok d (List.mem_cons_self ..)
   have hk:l.1.length=d.ws.length:=by simpa using congrArg List.length hp.ks
   have hw:∀ (w:List Wt) (B:List UInt8),WsOk w B→w.length≤(wsTxt w).length:=by
     intro w
     induction w with
     | nil=>intro B _;simp
     | cons x w ih =>
       intro B hB
       have h2:=ih B hB.2.2.2
       have h3:=hB.1.pos
       simp only [wsTxt,List.flatMap_cons,List.length_append,Wt.txt,List.length_cons] at h2 ⊢
       omega
   have h2:=hw _ _ hd.ws
   obtain ⟨a,ha⟩:=endTxt_last d.com
   have h3:1≤(endTxt d.com).length:=by rw [ha];simp
   rw [docG_cons]
   simp only [plsT,List.flatMap_cons,List.length_append,List.length_cons,List.length_nil] at h1 ⊢
   have h4:d.txt.length=(wsTxt d.ws).length+(endTxt d.com).length:=by simp [Dl.txt]
   omega
theorem doc_reads (f:Nat→Int) (c:Cont) (blk:Bool) (hc:ContF c) {tv tp:List UInt8} (ht:TailC tv tp) (hv:WdG tv) (hvl:tv.length≤9) (hp:NiceL tp) :
   ∃ t ts st b,TokG f (docG (docOf c blk tv tp)) 0 t∧ChainG f (docG (docOf c blk tv tp)) t ts∧FileP (t :: ts) st b∧ts.length≤800000∧(docG (docOf c blk tv tp)).length≤800000 ∧
     ∃ s1 s2,st.map (Stm.tx (docG (docOf c blk tv tp)))=.line moW [c.mod] :: (s1++s2)∧s1=(if c.go=[] then [] else [.line goW [c.go]])∧PP (.line tv [tp]) s2 b:=by
 have hok:=doc_ok c blk hc hv hp
 have hl:=doc_len c blk hc hvl hp
 obtain ⟨ls,h1,h2⟩:=doc_toksG f (docOf c blk tv tp) [] hok (Or.inl rfl)
 rw [List.nil_append,List.length_nil] at h2
 rw [List.nil_append] at h1
 obtain ⟨st,b,h3,h4⟩:=reads_doc (T:=docG (docOf c blk tv tp)) c blk hc ht ls ⟨-1,(docG (docOf c blk tv tp)).length,(docG (docOf c blk tv tp)).length⟩ h1 rfl
 have h5:=plsT_len h1 hok
 generalize hx:plsT ls++[(⟨-1,(docG (docOf c blk tv tp)).length,(docG (docOf c blk tv tp)).length⟩:Tk)]=xs at h2 h3
 have h6:xs.length≤700001:=by rw [← hx];simp;omega
 match xs,h2,h3,h6 with
 | t :: ts,h2,h3,h6=>exact ⟨t,ts,st,b,h2.1,h2.2,h3,by simp at h6;omega,by omega,h4⟩
end
section
open Go.RowKit Go.Proofs
theorem bslX (s:ByteArray) (a b:Nat):bsl (s.extract a b)=((bsl s).drop a).take (b - a):=by
 cases s;simp [bsl,ByteArray.extract,ByteArray.copySlice]
theorem bslI {a b:ByteArray} (h:bsl a=bsl b):a=b:=by
 rw [← mkS_bsl a,← mkS_bsl b,h]
theorem bslM (l:List UInt8):bsl (mkS l)=l:=rfl
theorem mkS_len (l:List UInt8):(mkS l).size=l.length:=by rw [← bsl_len,bslM]
theorem bt_mk (l:List UInt8) (k:Nat):bt (mkS l) k=ch l k:=by rw [bt_ch,bslM]
theorem mk_extract (l:List UInt8) (a b:Nat):(mkS l).extract a b=mkS ((l.drop a).take (b - a)):=by
 apply bslI;rw [bslX,bslM,bslM]
theorem mk_left (a b:List UInt8):(mkS (a++b)).extract 0 a.length=mkS a:=by rw [mk_extract];simp
theorem mk_right (a b:List UInt8) (n:Nat) (h:n=(a++b).length):(mkS (a++b)).extract a.length n=mkS b:=by rw [mk_extract,h];simp
theorem mk_tail (c:UInt8) (l:List UInt8) (n:Nat) (h:n=l.length+1):(mkS (c :: l)).extract 1 n=mkS l:=by rw [mk_extract,h];simp
theorem chM (u:List UInt8) (i:Nat) (h:i < u.length):∃ c ∈ u,ch u i=c.toNat:=⟨u[i],List.getElem_mem h,by simp [ch,List.getD_eq_getElem?_getD,List.getElem?_eq_getElem h]⟩
theorem pi_of (n r:List UInt8) (h:DgN n) (hr:r=[]∨digB (ch r 0)=false) (hl:r.length≤900000):PI (mkS (n++r)) (mkS n) (mkS r):=by
 obtain ⟨h0,h9,hd,hz⟩:=h
 have hs:(mkS (n++r)).size=n.length+r.length:=by rw [mkS_len,List.length_append]
 have:=parseInt_any (mkS (n++r)) n.length h0 (by omega) (fun i hi=>by
     rw [bt_mk,ch_left _ _ _ hi]
     obtain ⟨c,hc,e⟩:=chM n i hi
     rw [e]
     simp only [digB,decide_eq_true_eq]
     exact hd c hc) (fun hi=>by
     rw [bt_mk]
     have:=ch_right n r 0
     rw [Nat.add_zero] at this
     rw [this]
     rcases hr with rfl | hr
     · rw [List.append_nil,mkS_len] at hi;omega
     · exact hr) (by
     rw [bt_mk,ch_left _ _ _ h0]
     by_cases h48:ch n 0=48
     · exact Or.inr (hz h48)
     · exact Or.inl h48) (by omega)
 rw [mk_left,mk_right n r _ (by rw [hs,List.length_append])] at this
 exact this
theorem isIdentChar_let (c:Nat) (w:World) (h1:97≤c) (h2:c≤122):Calls Tryz.prog 183 #[.int .u8 (c:Int)] w fun e w'=>e=.returned (.bool true)∧w=w':=by
 have a1:(65:Int)≤(c:Int):=by omega
 have a2:¬ (c:Int)≤90:=by omega
 have a3:(97:Int)≤(c:Int):=by omega
 have a4:(c:Int)≤122:=by omega
 go_enter Tryz.func183,Tryz.ntmps183
 go_wp2
 go_ret
 exact ⟨rfl,rfl⟩
theorem isBadNum_let (l:ByteArray) (w:World) (h0:0 < l.size) (hc:digB (bt l 0)=false):Calls Tryz.prog 184 #[.string l] w fun e w'=>e=.returned (.bool false)∧w=w':=by
 have hg:(l[0]'h0).toNat=bt l 0:=bt_get l 0 h0
 have hi:(0:Int) < (l.size:Int):=by omega
 have hne:((0:Int) == (l.size:Int))=false:=by simp only [beq_eq_false_iff_ne];omega
 simp only [digB,decide_eq_false_iff_not] at hc
 by_cases h1:(48:Int)≤(bt l 0:Int)
 · have h2:¬ (bt l 0:Int)≤57:=by omega
   clear hc
   go_enter Tryz.func184,Tryz.ntmps184
   go_wp2_with fail
   refine wp_loop_rounds 1 ?_
   rw [rounds_succ]
   go_wp2_with fail
   go_returns
   exact ⟨rfl,rfl⟩
 · clear hc
   go_enter Tryz.func184,Tryz.ntmps184
   go_wp2_with fail
   refine wp_loop_rounds 1 ?_
   rw [rounds_succ]
   go_wp2_with fail
   go_returns
   exact ⟨rfl,rfl⟩
set_option maxHeartbeats 2000000 in
theorem parsePre_let (v:ByteArray) (n:Nat) (w:World) (hn:v.size=n+1) (h0:0 < n) (hl:n≤1000) (h45:bt v 0=45) (hc:∀ i,1≤i→i < n+1→97≤bt v i∧bt v i≤122) :
   Calls Tryz.prog 170 #[.string v] w fun e w'=>e=.returned (.tuple #[.string v,.string ⟨#[]⟩,.bool true])∧Below w.heap.size w w':=by
 have hv0:0 < v.size:=by omega
 have he:v.toList.isEmpty=false:=full_of_size hn
 have hg0:(v[0]'hv0).toNat=bt v 0:=bt_get v 0 hv0
 have f0:((bt v 0:Int) != 45)=false:=by rw [h45];rfl
 have HC:=hide hc
 have HN:=hide hn
 clear hc h45
 go_enter Tryz.func170,Tryz.ntmps170
 go_wp2_with fail
 go_loopg [5,6] n (fun k v5 v6 wr=>wr=w∧v6=.int .i64 1∧∃ i:Nat,1≤i∧i+k=n+1∧v5=.int .i64 (i:Int))
 case atStart=>exact ⟨rfl,rfl,1,by omega,by omega,rfl⟩
 case round =>
   obtain ⟨rfl,rfl,i,hi1,hik,rfl⟩:=hrel
   rcases Nat.lt_or_ge i (n+1) with hlt | hge
   · have hiv:i < v.size:=by omega
     have hg:(v[i]'hiv).toNat=bt v i:=bt_get v i hiv
     obtain ⟨c1,c2⟩:=HC.out i hi1 hlt
     have d3:(i:Int) < (v.size:Int):=by omega
     have d4:((bt v i:Int) != 43)=true:=by simp only [bne_iff_ne,ne_eq];omega
     have d5:((bt v i:Int) == 46)=false:=by simp only [beq_eq_false_iff_ne];omega
     have C:=hide (And.intro c1 c2)
     clear c1 c2
     go_wp2_with fail
     refine (isIdentChar_let (bt v i) _ C.out.1 C.out.2).mono ?_
     rintro e w1 ⟨rfl,rfl⟩
     go_wp2_with fail
     go_roundg (n+1 - (i+1))
     case measure=>omega
     case rel=>exact ⟨rfl,rfl,i+1,by omega,by omega,by simp⟩
   · obtain rfl:i=n+1:=by omega
     have z0:((1:Int) == (n:Int)+1)=false:=by simp only [beq_eq_false_iff_ne];omega
     have z1:(1:Int)≤(n:Int)+1:=by omega
     have z2:(0:Int)≤(n:Int)+1:=by omega
     have hsz:(v.size:Int)=(n:Int)+1:=by omega
     have hsz2:v.size=n+1:=hn
     have e1:v.extract 0 (n+1)=v:=by rw [← HN.out];simp
     have e2:v.extract (n+1) (n+1)=⟨#[]⟩:=by apply bslI;rw [bslX];simp [bsl]
     have hb:=isBadNum_let (v.extract 1 (n+1)) wr (by simp [hsz2];omega) (by
       rw [bt_ch,bslX]
       have h1:=HC.out 1 (by omega) (by omega)
       rw [bt_ch] at h1
       have:ch (List.take (n+1 - 1) (List.drop 1 (bsl v))) 0=ch (bsl v) 1:=by
         simp only [ch,List.getD_eq_getElem?_getD,List.getElem?_take,List.getElem?_drop]
         rw [if_pos (by omega)]
       rw [this]
       simp only [digB,decide_eq_false_iff_not]
       omega)
     have HB:=hide hb
     clear hb
     go_wp2_with (go_at_call 184;refine HB.out.mono ?_;rintro e w1 ⟨rfl,rfl⟩)
     go_quiet (fail)
     go_wp2_with fail
     go_returns
     exact ⟨rfl,Below.drewN' (Below.refl _ _) _⟩
def SP (s D:ByteArray):Prop:=∃ z1 z2 pr:ByteArray,∀ w:World,Calls Tryz.prog 143 #[.string s] w fun e w'=>e=.returned (.tuple #[.agg #[.string D,.string z1,.string z2,.string ⟨#[]⟩,.string pr,.string ⟨#[]⟩],.bool true])∧Below w.heap.size w w'
set_option maxHeartbeats 2000000 in
theorem semver_pre (s v1 v2 v3 v4 v5 v6 D z1 z2:ByteArray) (n:Nat) (w:World) (hpos:0 < s.size) (h118:bt s 0=118) (e1:s.extract 1 s.size=v1) (p1:PI v1 D v2) (h2:0 < v2.size) (b2:bt v2 0=46) (e2:v2.extract 1 v2.size=v3) (p2:PI v3 z1 v4) (h4:0 < v4.size) (b4:bt v4 0=46) (e4:v4.extract 1 v4.size=v5) (p5:PI v5 z2 v6)
   (h6:v6.size=n+1) (hn:0 < n) (hl:n≤1000) (b6:bt v6 0=45) (hc:∀ i,1≤i→i < n+1→97≤bt v6 i∧bt v6 i≤122) :
   Calls Tryz.prog 143 #[.string s] w fun e w'=>e=.returned (.tuple #[.agg #[.string D,.string z1,.string z2,.string ⟨#[]⟩,.string v6,.string ⟨#[]⟩],.bool true])∧Below w.heap.size w w':=by
 have hv6:0 < v6.size:=by omega
 have g0:(s[0]'hpos).toNat=bt s 0:=bt_get s 0 hpos
 have g2:(v2[0]'h2).toNat=bt v2 0:=bt_get v2 0 h2
 have g4:(v4[0]'h4).toNat=bt v4 0:=bt_get v4 0 h4
 have g6:(v6[0]'hv6).toNat=bt v6 0:=bt_get v6 0 hv6
 have f0:((bt s 0:Int) != 118)=false:=by rw [h118];rfl
 have f2:((bt v2 0:Int) != 46)=false:=by rw [b2];rfl
 have f4:((bt v4 0:Int) != 46)=false:=by rw [b4];rfl
 have f6:((bt v6 0:Int) == 45)=true:=by rw [b6];rfl
 have n0:s.toList.isEmpty=false:=full_of_size (n:=s.size - 1) (by omega)
 have n2:v2.toList.isEmpty=false:=full_of_size (n:=v2.size - 1) (by omega)
 have n4:v4.toList.isEmpty=false:=full_of_size (n:=v4.size - 1) (by omega)
 have i0:(1:Int)≤(s.size:Int):=by omega
 have i2:(1:Int)≤(v2.size:Int):=by omega
 have i4:(1:Int)≤(v4.size:Int):=by omega
 have i6:(0:Int) < (v6.size:Int):=by omega
 have P1:=hide p1
 have P2:=hide p2
 have P5:=hide p5
 have P6:=hide (fun W=>parsePre_let v6 n W h6 hn hl b6 hc)
 clear h118 b2 b4 b6 p1 p2 p5 hc h6
 go_enter Tryz.func143,Tryz.ntmps143
 go_wp2_with fail
 go_fit (P1.out _)
 rintro e w1 ⟨rfl,n1,rfl⟩
 go_wp2_with fail
 go_fit (P2.out _)
 rintro e w1 ⟨rfl,n2,rfl⟩
 go_wp2_with fail
 go_fit (P5.out _)
 rintro e w1 ⟨rfl,n3,rfl⟩
 go_wp2_with fail
 refine (show ∀ W5:World,Blk W5 w.heap.size 245 #[.string D,.string z1,.string z2,.string ⟨#[]⟩,.string ⟨#[]⟩,.string ⟨#[]⟩]→Below w.heap.size w W5→Calls _ _ _ W5 _ from fun W5 b5 hb5=>?_) _
   ((((((((Blk.new w _ _).drewN n1).set 0 (.string D)).drewN n2).set 1 (.string z1)).drewN n3).set 2 (.string z2)).eq (by simp))
   ((Below.drewN' ((Below.drewN' ((Below.drewN' ((Below.refl _ w).alloc (Nat.le_refl _) _) n1).setCell (Nat.le_refl _) _) n2).setCell (Nat.le_refl _) _) n3).setCell (Nat.le_refl _) _)
 refine (P6.out W5).mono ?_
 rintro e w6 ⟨rfl,hb6⟩
 have b6:=b5.kept (Kp.of_below (X:=fun _=>False) hb6) (fun h=>h)
 have q4:w6.cell? ⟨w.heap.size,4,none⟩=some (.string ⟨#[]⟩):=b6.cell 4 rfl
 have f4':∀ j,w6.frozen? ⟨w.heap.size,j,none⟩=false:=fun j=>b6.free j
 have B6:=hide b6
 have HB6:=hide (hb5.trans (hb6.mono hb5.size))
 clear b5 hb5 hb6 b6
 go_wp2_with fail
 refine (show ∀ W5:World,Blk W5 w.heap.size 245 #[.string D,.string z1,.string z2,.string ⟨#[]⟩,.string v6,.string ⟨#[]⟩]→Below w.heap.size w W5→bodyPost Tryz.prog _ _ Exit.ret _ W5 from fun W5 b5 hb5=>?_) _
   ((B6.out.set 4 (.string v6)).eq (by simp)) (HB6.out.setCell (Nat.le_refl _) _)
 have q0:W5.cell? ⟨w.heap.size,0,none⟩=some (.string D):=b5.cell 0 rfl
 have q1:W5.cell? ⟨w.heap.size,1,none⟩=some (.string z1):=b5.cell 1 rfl
 have q2:W5.cell? ⟨w.heap.size,2,none⟩=some (.string z2):=b5.cell 2 rfl
 have q3:W5.cell? ⟨w.heap.size,3,none⟩=some (.string ⟨#[]⟩):=b5.cell 3 rfl
 have q4:W5.cell? ⟨w.heap.size,4,none⟩=some (.string v6):=b5.cell 4 rfl
 have q5:W5.cell? ⟨w.heap.size,5,none⟩=some (.string ⟨#[]⟩):=b5.cell 5 rfl
 exact bodyPost_ret (v:=.tuple #[.agg #[.string D,.string z1,.string z2,.string ⟨#[]⟩,.string v6,.string ⟨#[]⟩],.bool true]) (by simp [results,Tryz.results143,go_sem,q0,q1,q2,q3,q4,q5]) rfl ⟨rfl,hb5⟩
theorem sp_ver {v:List UInt8} (h:VerL v):∃ m:UInt8,(m=48∨m=49)∧(∃ r,v=118 :: m :: r)∧SP (mkS v) (mkS [m]):=by
 have hall:=h.all.1
 obtain ⟨m,n1,n2,pre,rfl,hm,h1,h2,hp⟩:=h
 refine ⟨m,hm,⟨_,rfl⟩,?_⟩
 have hm9:DgN [m]:=by
   refine ⟨by simp,by simp,fun c hc=>?_,fun _=>rfl⟩
   obtain rfl:=List.mem_singleton.1 hc
   rcases hm with rfl | rfl <;> decide
 have hpl:pre.length≤21:=by
   rcases hp with rfl | ⟨l,rfl,_,hl,_⟩ <;> simp;omega
 have P1:=pi_of [m] (46 :: (n1++46 :: (n2++pre))) hm9 (Or.inr (by rw [ch_zero];rfl)) (by have:=h1.2.1;have:=h2.2.1;simp;omega)
 have P2:=pi_of n1 (46 :: (n2++pre)) h1 (Or.inr (by rw [ch_zero];rfl)) (by have:=h2.2.1;simp;omega)
 have hpd:pre=[]∨digB (ch pre 0)=false:=by
   rcases hp with rfl | ⟨l,rfl,_⟩
   · exact Or.inl rfl
   · exact Or.inr (by rw [ch_zero];rfl)
 have P3:=pi_of n2 pre h2 hpd (by omega)
 have t1:=mk_tail 118 (m :: 46 :: (n1++46 :: (n2++pre))) (mkS (118 :: m :: 46 :: (n1++46 :: (n2++pre)))).size (by rw [mkS_len,List.length_cons])
 have t2:=mk_tail 46 (n1++46 :: (n2++pre)) (mkS (46 :: (n1++46 :: (n2++pre)))).size (by rw [mkS_len,List.length_cons])
 have t3:=mk_tail 46 (n2++pre) (mkS (46 :: (n2++pre))).size (by rw [mkS_len,List.length_cons])
 have z:∀ (c:UInt8) (l:List UInt8),0 < (mkS (c :: l)).size∧bt (mkS (c :: l)) 0=c.toNat:=fun c l=>⟨by rw [mkS_len];simp,by rw [bt_mk,ch_zero]⟩
 rcases hp with rfl | ⟨l,rfl,hl0,hl1,hl2⟩
 · have hv:Ver3 (mkS (118 :: m :: 46 :: (n1++46 :: (n2++[])))) _ _ _ _ _ (mkS [m]) (mkS n1) (mkS n2) :=
     ⟨(z _ _).1,(z _ _).2,t1,P1,(z _ _).1,(z _ _).2,t2,P2,(z _ _).1,(z _ _).2,t3,P3⟩
   exact ⟨_,_,_,fun w=>semver_good _ _ _ _ _ _ _ _ _ w hv⟩
 · refine ⟨_,_,_,fun w=>semver_pre _ _ _ _ _ _ _ (mkS [m]) (mkS n1) (mkS n2) l.length w (z _ _).1 (z _ _).2 t1 P1 (z _ _).1 (z _ _).2 t2 P2 (z _ _).1 (z _ _).2 t3 P3 (by rw [mkS_len];simp) hl0 (by omega) (z _ _).2 (fun i hi hi2=>?_)⟩
   obtain ⟨j,rfl⟩:∃ j,i=j+1:=⟨i - 1,by omega⟩
   rw [bt_mk,ch_cons]
   obtain ⟨c,hc,e⟩:=chM l j (by omega)
   rw [e]
   exact hl2 c hc
theorem canonical_sp (s D:ByteArray) (w:World) (h:SP s D):Calls Tryz.prog 139 #[.string s] w fun e w'=>e=.returned (.string s)∧Below w.heap.size w w':=by
 obtain ⟨z1,z2,pr,h⟩:=h
 have H:=hide h
 clear h
 go_enter Tryz.func139,Tryz.ntmps139
 go_wp2_with fail
 refine (H.out w).mono ?_
 rintro e w1 ⟨rfl,hb⟩
 have HB:=hide (hb.alloc hb.size (Obj.cells #[.string D,.string z1,.string z2,.string ⟨#[]⟩,.string pr,.string ⟨#[]⟩] 245))
 clear hb
 go_wp2_with fail
 go_ret
 exact ⟨rfl,HB.out⟩
theorem build_sp (s D:ByteArray) (w:World) (h:SP s D):Calls Tryz.prog 113 #[.string s] w fun e w'=>e=.returned (.string ⟨#[]⟩)∧Below w.heap.size w w':=by
 obtain ⟨z1,z2,pr,h⟩:=h
 have H:=hide h
 clear h
 go_enter Tryz.func113,Tryz.ntmps113
 go_wp2_with fail
 refine (H.out w).mono ?_
 rintro e w1 ⟨rfl,hb⟩
 have HB:=hide (hb.alloc hb.size (Obj.cells #[.string D,.string z1,.string z2,.string ⟨#[]⟩,.string pr,.string ⟨#[]⟩] 245))
 clear hb
 go_wp2_with fail
 go_ret
 exact ⟨rfl,HB.out⟩
theorem major_sp (s D:ByteArray) (w:World) (h:SP s D) (hD:D.size≤1000000) (hle:1+D.size≤s.size):Calls Tryz.prog 112 #[.string s] w fun e w'=>e=.returned (.string (s.extract 0 (1+D.size)))∧Below w.heap.size w w':=by
 have z0:(0:Int)≤1+(D.size:Int):=by omega
 have z1':1+(D.size:Int)≤(s.size:Int):=by omega
 have et:((1:Int)+(D.size:Int)).toNat=1+D.size:=by omega
 obtain ⟨z1,z2,pr,h⟩:=h
 have H:=hide h
 clear h
 go_enter Tryz.func112,Tryz.ntmps112
 go_wp2_with fail
 refine (H.out w).mono ?_
 rintro e w1 ⟨rfl,hb⟩
 have HB:=hide (hb.alloc hb.size (Obj.cells #[.string D,.string z1,.string z2,.string ⟨#[]⟩,.string pr,.string ⟨#[]⟩] 245))
 clear hb
 go_wp2_with fail
 go_ret
 exact ⟨rfl,HB.out⟩
theorem canonicalVersion_sp (s D:ByteArray) (w:World) (h:SP s D):Calls Tryz.prog 108 #[.string s] w fun e w'=>e=.returned (.string s)∧Below w.heap.size w w':=by
 have H:=hide h
 clear h
 go_enter Tryz.func108,Tryz.ntmps108
 go_wp2_with fail
 refine (canonical_sp s D w H.out).mono ?_
 rintro e w1 ⟨rfl,hb⟩
 have HB:=hide hb
 clear hb
 go_wp2_with fail
 refine (build_sp s D w1 H.out).mono ?_
 rintro e w2 ⟨rfl,hb2⟩
 have HB2:=hide (HB.out.trans (hb2.mono HB.out.size))
 clear hb2
 go_wp2_with fail
 go_ret
 exact ⟨rfl,HB2.out⟩
end
section
open Go.RowKit Go.Proofs
theorem NiceL.plain {u:List UInt8} (h:NiceL u):Plain (mkS u):=by
 have hc:∀ k,k < (mkS u).size→(97≤bt (mkS u) k∧bt (mkS u) k≤122)∨(48≤bt (mkS u) k∧bt (mkS u) k≤57)∨bt (mkS u) k=46∨bt (mkS u) k=47∨bt (mkS u) k=45:=fun k hk=>by
   rw [mkS_len] at hk
   rw [bt_mk]
   exact wch2_bd (h.chars k hk)
 have hsz:(mkS u).size=u.length:=mkS_len u
 refine ⟨fun k hk=>by have:=hc k hk;omega,?_,by rw [hsz];have:=h.len;omega,?_⟩
 · have h0:=hc 0 (by rw [hsz];exact h.pos)
   rw [bt_mk] at h0
   have hl:=h.pos
   change Lib.hasPrefix u [34]=false
   cases u with
   | nil=>simp at hl
   | cons a l =>
     have ha:a≠34:=by
       rintro rfl
       simp [ch] at h0
     simp [Lib.hasPrefix,List.isPrefixOf,Ne.symm ha]
 · unfold mqB
   have h1:(List.range (mkS u).size).any (mqAt (mkS u))=false:=by
     rw [List.any_eq_false]
     intro k hk
     have hk':k < (mkS u).size:=by simpa using hk
     have:=hc k hk'
     simp only [mqAt,qCh,brCh,Bool.or_eq_true,Bool.and_eq_true,beq_iff_eq,decide_eq_true_eq]
     omega
   have h2:((mkS u).size == 0)=false:=by simp only [beq_eq_false_iff_ne,ne_eq];have:=h.pos;omega
   have h3:standsB (mkS u) s2=false:=by
     unfold standsB
     rw [List.any_eq_false]
     intro k hk he
     simp only [atB,Bool.and_eq_true,decide_eq_true_eq,beq_iff_eq] at he
     have:=extract_two (mkS u) k 47 47 he.1 (by omega) (by omega) (he.2.trans (by rw [Lib.toList_data];rfl))
     rw [bt_mk,bt_mk] at this
     exact h.no2 k (by have:=he.1;change k+2≤(mkS u).size at this;omega) this
   have h4:standsB (mkS u) s3=false:=by
     unfold standsB
     rw [List.any_eq_false]
     intro k hk he
     simp only [atB,Bool.and_eq_true,decide_eq_true_eq,beq_iff_eq] at he
     have:=extract_two (mkS u) k 47 42 he.1 (by omega) (by omega) (he.2.trans (by rw [Lib.toList_data];rfl))
     have h5:=hc (k+1) (by have:=he.1;change k+2≤(mkS u).size at this;omega)
     omega
   rw [h1,h2,h3,h4];rfl
theorem Wrd.plain {u:List UInt8} (h:Wrd u):Plain (mkS u):=by
 rcases h with h | rfl | rfl | rfl | rfl | rfl | rfl
 · exact h.plain
 all_goals refine ⟨by decide,by decide,by decide,by kernel_rfl⟩
def SB (s:ByteArray):Prop:=∀ w:World,Calls Tryz.prog 143 #[.string s] w fun e w'=>e=.returned (.tuple #[parsedZero,.bool false])∧Below w.heap.size w w'
theorem parseInt_no (v:ByteArray) (w:World) (h:v.size=0∨(0 < v.size∧digB (bt v 0)=false)) :
   Calls Tryz.prog 169 #[.string v] w fun e w'=>e=.returned (.tuple #[.string ⟨#[]⟩,.string ⟨#[]⟩,.bool false])∧w'=w:=by
 rcases h with h | ⟨h0,hd⟩
 · have he:=empty_of_size h
   go_enter Tryz.func169,Tryz.ntmps169
   go_wp2_with fail
   go_returns
   exact ⟨rfl,rfl⟩
 · have he:v.toList.isEmpty=false:=full_of_size (n:=v.size - 1) (by omega)
   have hg:(v[0]'h0).toNat=bt v 0:=bt_get v 0 h0
   simp only [digB,decide_eq_false_iff_not] at hd
   by_cases h1:(bt v 0:Int) < 48
   · clear hd
     go_enter Tryz.func169,Tryz.ntmps169
     go_wp2_with fail
     go_returns
     exact ⟨rfl,rfl⟩
   · have h2:(57:Int) < (bt v 0:Int):=by omega
     clear hd
     go_enter Tryz.func169,Tryz.ntmps169
     go_wp2_with fail
     go_returns
     exact ⟨rfl,rfl⟩
set_option maxHeartbeats 1000000 in
theorem semver_no (s:ByteArray) (n:Nat) (w:World) (hn:s.size=n+1) (h118:bt s 0=118) (hd:digB (bt s 1)=false) :
   Calls Tryz.prog 143 #[.string s] w fun e w'=>e=.returned (.tuple #[parsedZero,.bool false])∧Below w.heap.size w w':=by
 have hget:(s[0]'(by omega)).toNat=bt s 0:=bt_get s 0 (by omega)
 have f:((bt s 0:Int) != 118)=false:=by rw [h118];rfl
 have h0:(1:Int)≤(s.size:Int):=by omega
 have he:s.toList.isEmpty=false:=full_of_size hn
 have hsz:(s.extract 1 (n+1)).size=n:=by simp [hn]
 have hP:=hide (fun W=>parseInt_no (s.extract 1 (n+1)) W (by
   rcases n with _ | n
   · exact Or.inl hsz
   · right
     refine ⟨by omega,?_⟩
     have:bt (s.extract 1 (n+1+1)) 0=bt s 1:=by
       rw [bt_ch,bt_ch,bslX]
       simp only [ch,List.getD_eq_getElem?_getD,List.getElem?_take,List.getElem?_drop]
       rw [if_pos (by omega)]
     rw [this];exact hd))
 clear h118 hd
 go_enter Tryz.func143,Tryz.ntmps143
 go_wp2_with fail
 go_fit (hP.out _)
 rintro e w1 ⟨rfl,rfl⟩
 go_wp2_with fail
 refine (show ∀ W5:World,Blk W5 w.heap.size 245 #[.string ⟨#[]⟩,.string ⟨#[]⟩,.string ⟨#[]⟩,.string ⟨#[]⟩,.string ⟨#[]⟩,.string ⟨#[]⟩]→Below w.heap.size w W5→bodyPost Tryz.prog _ _ Exit.ret _ W5 from fun W5 b5 hb5=>?_) _
   (Blk.new w _ _) ((Below.refl _ w).alloc (Nat.le_refl _) _)
 have q0:W5.cell? ⟨w.heap.size,0,none⟩=some (.string ⟨#[]⟩):=b5.cell 0 rfl
 have q1:W5.cell? ⟨w.heap.size,1,none⟩=some (.string ⟨#[]⟩):=b5.cell 1 rfl
 have q2:W5.cell? ⟨w.heap.size,2,none⟩=some (.string ⟨#[]⟩):=b5.cell 2 rfl
 have q3:W5.cell? ⟨w.heap.size,3,none⟩=some (.string ⟨#[]⟩):=b5.cell 3 rfl
 have q4:W5.cell? ⟨w.heap.size,4,none⟩=some (.string ⟨#[]⟩):=b5.cell 4 rfl
 have q5:W5.cell? ⟨w.heap.size,5,none⟩=some (.string ⟨#[]⟩):=b5.cell 5 rfl
 exact bodyPost_ret (v:=.tuple #[parsedZero,.bool false]) (by simp [results,Tryz.results143,go_sem,parsedZero,q0,q1,q2,q3,q4,q5]) rfl ⟨rfl,hb5⟩
theorem sb_of {y:List UInt8} (hp:0 < y.length) (h:NotV y):SB (mkS y):=by
 intro w
 have hn:(mkS y).size=(y.length - 1)+1:=by rw [mkS_len];omega
 by_cases h118:ch y 0=118
 · refine semver_no _ _ w hn (by rw [bt_mk];exact h118) ?_
   rw [bt_mk]
   exact h.resolve_left (fun hne=>hne h118)
 · exact semver_bad _ _ w hn (by rw [bt_mk];exact h118)
theorem canonical_sb (s:ByteArray) (w:World) (h:SB s):Calls Tryz.prog 139 #[.string s] w fun e w'=>e=.returned (.string ⟨#[]⟩)∧Below w.heap.size w w':=by
 have H:=hide h
 clear h
 go_enter Tryz.func139,Tryz.ntmps139
 go_wp2_with fail
 refine (H.out w).mono ?_
 rintro e w1 ⟨rfl,hb⟩
 have HB:=hide (hb.alloc hb.size (Obj.cells #[.string ⟨#[]⟩,.string ⟨#[]⟩,.string ⟨#[]⟩,.string ⟨#[]⟩,.string ⟨#[]⟩,.string ⟨#[]⟩] 245))
 clear hb
 unfold parsedZero
 go_wp2_with fail
 go_ret
 exact ⟨rfl,HB.out⟩
theorem build_sb (s:ByteArray) (w:World) (h:SB s):Calls Tryz.prog 113 #[.string s] w fun e w'=>e=.returned (.string ⟨#[]⟩)∧Below w.heap.size w w':=by
 have H:=hide h
 clear h
 go_enter Tryz.func113,Tryz.ntmps113
 go_wp2_with fail
 refine (H.out w).mono ?_
 rintro e w1 ⟨rfl,hb⟩
 have HB:=hide (hb.alloc hb.size (Obj.cells #[.string ⟨#[]⟩,.string ⟨#[]⟩,.string ⟨#[]⟩,.string ⟨#[]⟩,.string ⟨#[]⟩,.string ⟨#[]⟩] 245))
 clear hb
 unfold parsedZero
 go_wp2_with fail
 go_ret
 exact ⟨rfl,HB.out⟩
theorem canonicalVersion_sb (s:ByteArray) (w:World) (h:SB s):Calls Tryz.prog 108 #[.string s] w fun e w'=>e=.returned (.string ⟨#[]⟩)∧Below w.heap.size w w':=by
 have H:=hide h
 clear h
 go_enter Tryz.func108,Tryz.ntmps108
 go_wp2_with fail
 refine (canonical_sb s w H.out).mono ?_
 rintro e w1 ⟨rfl,hb⟩
 have HB:=hide hb
 clear hb
 go_wp2_with fail
 refine (build_sb s w1 H.out).mono ?_
 rintro e w2 ⟨rfl,hb2⟩
 have HB2:=hide (HB.out.trans (hb2.mono HB.out.size))
 clear hb2
 go_wp2_with fail
 go_ret
 exact ⟨rfl,HB2.out⟩
set_option maxHeartbeats 1000000 in
theorem parseVersion_sb (R i:Nat) (cur:Array Value) (verb path s:ByteArray) (w:World) (hR:Blk w R 9 cur) (hi:cur[i]?=some (.string s)) (hp:Plain s) (hs:SB s) (hpr:PrTab w) (hP:0 < w.heap.size) :
   Calls Tryz.prog 74 #[.string verb,.string path,.pointer (some ⟨R,i,none⟩),.nilFunc] w fun e w'=>(∃ t v,e=.returned (.tuple #[.string ⟨#[]⟩,.iface t v]))∧Below w.heap.size w w':=by
 have hq:∀ (w:World),(binOp .neq 75 .nilFunc .nilFunc).run Tryz.prog w=.ok (.bool false) w:=fun w=>by kernel_rfl
 have HS:=hide hs
 have HC:=hide (parseString_plain R i cur s w hR hi hp.chars hp.first hp.len hp.mq hpr hP)
 clear hs hR hi hpr
 go_enter Tryz.func74,Tryz.ntmps74
 go_wp2_with fail
 refine HC.out.mono ?_
 rintro e w1 ⟨rfl,hb⟩
 have HB:=hide hb
 clear hb
 go_wp2_with fail
 refine (canonicalVersion_sb s w1 HS.out).mono ?_
 rintro e w2 ⟨rfl,hb2⟩
 have HB2:=hide (HB.out.trans (hb2.mono HB.out.size))
 clear hb2
 go_wp2_with fail
 refine (errors_new _ _).mono ?_
 rintro e w3 ⟨rfl,rfl⟩
 go_wp2_with fail
 go_returns
 exact ⟨⟨_,_,rfl⟩,((HB2.out.alloc HB2.out.size _).alloc (by have:=HB2.out.size;simp;omega) _).alloc (by have:=HB2.out.size;simp;omega) _⟩
set_option maxHeartbeats 1000000 in
theorem parseVersion_sp (R i:Nat) (cur:Array Value) (verb path s D:ByteArray) (w:World) (hR:Blk w R 9 cur) (hi:cur[i]?=some (.string s)) (hp:Plain s) (h:SP s D) (h0:0 < s.size) (hpr:PrTab w) (hP:0 < w.heap.size) :
   Calls Tryz.prog 74 #[.string verb,.string path,.pointer (some ⟨R,i,none⟩),.nilFunc] w fun e w'=>e=.returned (.tuple #[.string s,.nilIface])∧Below w.heap.size w w':=by
 have hq:∀ (w:World),(binOp .neq 75 .nilFunc .nilFunc).run Tryz.prog w=.ok (.bool false) w:=fun w=>by kernel_rfl
 have he:s.toList.isEmpty=false:=full_of_size (n:=s.size - 1) (by omega)
 have HR:=hide hR
 have HI:=hide hi
 have HH:=hide h
 have HC:=hide (parseString_plain R i cur s w hR hi hp.chars hp.first hp.len hp.mq hpr hP)
 clear hR hi hpr h
 go_enter Tryz.func74,Tryz.ntmps74
 go_wp2_with fail
 refine HC.out.mono ?_
 rintro e w1 ⟨rfl,hb⟩
 have HB:=hide hb
 clear hb
 go_wp2_with fail
 refine (canonicalVersion_sp s D w1 HH.out).mono ?_
 rintro e w2 ⟨rfl,hb2⟩
 have hb2':=HB.out.trans (hb2.mono HB.out.size)
 have bR:=HR.out.kept (Kp.of_below (X:=fun _=>False) hb2') (fun h=>h)
 have c3:w2.cell? ⟨R,i,none⟩=some (.string s):=bR.cell i HI.out
 have f3:w2.frozen? ⟨R,i,none⟩=false:=bR.free i
 have s3:w2.setCell ⟨R,i,none⟩ (.string s)=w2:=bR.set_id HI.out
 have HB2:=hide hb2'
 clear hb2 hb2' bR
 go_wp2_with fail
 go_returns
 exact ⟨rfl,HB2.out⟩
set_option maxHeartbeats 2000000 in
theorem checkPathMajor_sp (v:List UInt8) (w:World) (h:VerL v) :
   Calls Tryz.prog 76 #[.string (mkS v),.string ⟨#[]⟩] w fun e w'=>e=.returned .nilIface∧Below w.heap.size w w':=by
 obtain ⟨m,hm,⟨r,hr⟩,hsp⟩:=sp_ver h
 have hex:(mkS v).extract 0 (1+(mkS [m]).size)=⟨#[118,m]⟩:=by
   rw [mkS_len,hr,mk_extract];rfl
 have hv2:1+(mkS [m]).size≤(mkS v).size:=by rw [mkS_len,mkS_len,hr];simp
 have HV:=hide (fun W=>major_sp (mkS v) (mkS [m]) W hsp (by rw [mkS_len];simp) hv2)
 obtain ⟨bp,hbp⟩:∃ b,b=Lib.hasPrefix (mkS v).data.toList (⟨#[118,48,46,48,46,48,45]⟩:ByteArray).data.toList:=⟨_,rfl⟩
 have HBP:=hide hbp
 have HEX:=hide hex
 have HSP:=hide hsp
 clear hsp hbp hex hv2 hr h
 go_enter Tryz.func76,Tryz.ntmps76
 go_wp2_with fail
 refine (hasPrefix_any ⟨#[]⟩ _ w).mono ?_
 rintro e w1 ⟨rfl,rfl⟩
 rw [show Lib.hasPrefix (⟨#[]⟩:ByteArray).data.toList (⟨#[46,118]⟩:ByteArray).data.toList=false from rfl]
 go_wp2_with fail
 refine (hasPrefix_any (mkS v) _ w).mono ?_
 rintro e w1 ⟨rfl,rfl⟩
 rw [← HBP.out]
 cases bp
 all_goals go_wp2_with fail
 all_goals (go_fit (HV.out w);rintro e w1 ⟨rfl,hb1⟩;rw [HEX.out])
 all_goals have HB1:=hide hb1
 all_goals clear hb1
 all_goals rcases hm with rfl | rfl
 all_goals go_wp2_with fail
 all_goals go_returns
 all_goals exact ⟨rfl,HB1.out⟩
end
end Go.Proofs.YtifkpibjeamfkaaGreatFmt
