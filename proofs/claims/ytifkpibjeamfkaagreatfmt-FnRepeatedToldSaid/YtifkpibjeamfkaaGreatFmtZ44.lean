/-
  What Text gives, in plain lists; its state.
-/
import Derived.Test.YtifkpibjeamfkaaGreatFmtZ43
import Derived.Deep.CutBlock
set_option linter.unusedVariables false
set_option linter.unusedSimpArgs false
set_option maxRecDepth 100000
namespace Go.Proofs.YtifkpibjeamfkaaGreatFmt
section
open Go.RowKit Go.Proofs Go.Deep
theorem Tryz.infoItem:(Tryz.prog.info? 59).map (fun i=>(i.zero.map (fun z=>z.cells.size),i.size,i.bytes))=some (some 2,2,32):=by kernel_rfl
theorem Tryz.und_items:Tryz.prog.underlying 60=some (.slice 59):=by kernel_rfl
def itP (i:Itm):List UInt8 × List UInt8:=(i.why,itmT i)
def optS (v p:List UInt8):List (List UInt8):=if p=[] then [] else [v++(32 :: (p++[10]))]
def listS1 (c:Cont):List (List UInt8):=secS moW [([],c.mod)] false
def listS2 (c:Cont):List (List UInt8):=listS1 c++optS goW c.go
def listS3 (c:Cont):List (List UInt8):=listS2 c++optS tcW c.tc
def listS4 (c:Cont) (blk:Bool):List (List UInt8):=listS3 c++secS rqW (c.reqs.map (fun r=>itP (reqI r))) blk
def listS5 (c:Cont) (blk:Bool):List (List UInt8):=listS4 c blk++secS exW (c.excs.map (fun r=>itP (excI r))) blk
def listS6 (c:Cont) (blk:Bool):List (List UInt8):=listS5 c blk++secS rpW (c.reps.map (fun r=>itP (repI r))) blk
def listS7 (c:Cont) (blk:Bool):List (List UInt8):=listS6 c blk++secS rtW (c.rets.map (fun r=>itP (retI r))) blk
def listS8 (c:Cont) (blk:Bool):List (List UInt8):=listS7 c blk++secS toW (c.tools.map (fun r=>itP (pthI r))) blk
def listS (c:Cont) (blk:Bool):List (List UInt8):=listS8 c blk++secS igW (c.igns.map (fun r=>itP (pthI r))) blk
def joinS:List (List UInt8)→List UInt8
 | []=>[]
 | a :: r=>a++r.flatMap (fun x=>10 :: x)
theorem joinS_snoc (l:List (List UInt8)) (x:List UInt8) (h:l≠[]):joinS (l++[x])=joinS l++10 :: x:=by
 cases l with
 | nil=>exact absurd rfl h
 | cons a r=>simp [joinS]
theorem optS_len (v p:List UInt8):(optS v p).length≤1:=by unfold optS;split <;> simp
theorem listS1_len (c:Cont):(listS1 c).length≤3:=by simp [listS1,secS]
theorem listS2_len (c:Cont):(listS2 c).length≤3:=by
 have:=optS_len goW c.go
 simp [listS2,listS1,secS];omega
theorem listS3_len (c:Cont):(listS3 c).length≤3:=by
 have:=optS_len goW c.go
 have:=optS_len tcW c.tc
 simp [listS3,listS2,listS1,secS];omega
theorem go_len {p:List UInt8} (h:p=[]∨NiceL p):p.length≤1000:=by
 rcases h with rfl | h
 · simp
 · exact h.len
theorem path_len {p:List UInt8} (h:PathF (mkS p)):p.length≤100:=by have:=h.len;rwa [mkS_size] at this
theorem strL_of {s:ByteArray} {l:List UInt8} (h:bsl s=l):Value.string s=strL l:=by unfold strL;rw [mkS_eq h]
theorem own_nil2 (w:World) (N:Nat):w.ownsRow N 59 2 (.slice none 0 0) 0 []:=⟨by simp,Or.inl ⟨rfl,rfl⟩⟩
theorem row_one (W:World) (m:List UInt8):RowV (W.alloc (Obj.cells #[.string ⟨#[]⟩,.string (mkS m)] 59)) (.slice (some ⟨W.heap.size,0,none⟩) 1 1) 2 ([(([]:List UInt8),m)].map itV):=by
 refine ⟨_,_,rfl,by simp,fun i x hx=>⟨_,_,rfl,fun j y hy=>?_⟩⟩
 have hi:i=0:=by
   have:=(List.getElem?_eq_some_iff.1 hx).1
   simpa using this
 subst hi
 simp only [List.map_cons,List.map_nil,List.getElem?_cons_zero,Option.some.injEq] at hx
 subst hx
 have hb:=Blk.new W 59 #[.string ⟨#[]⟩,.string (mkS m)]
 match j,hy with
 | 0,hy=>exact (hb.cell 0 rfl).trans hy
 | 1,hy=>exact (hb.cell 1 rfl).trans hy
 | j+2,hy=>simp [itV] at hy
structure TxI (w wr:World) (ce:Array Value) (u5:Value) (xs:List (List UInt8)) (its:List (List UInt8 × List UInt8)) (v6:Value) (n:Nat):Prop where
 below:Below w.heap.size w wr
 blk:Blk wr w.heap.size 28 ce
 list:wr.ownsRow w.heap.size 9 1 u5 xs.length (xs.map strL)
 items:wr.ownsRow w.heap.size 59 2 v6 n (its.flatMap itV)
 len:its.length=n
section
variable {w wr w3:World} {ce:Array Value} {u5 v6 v':Value} {xs:List (List UInt8)} {its:List (List UInt8 × List UInt8)} {n:Nat}
theorem row_belowV {N M sz n:Nat} {e:TypeId} {w w':World} {v:Value} {xs:List Value} (h:w.ownsRow N e sz v n xs) (k:Below M w w') (hM:w.heap.size≤M):w'.ownsRow N e sz v n xs :=
 ownsRow_keptU (S:=fun _ _=>False) h (Ku.of_below (k.mono hM) (Nat.le_refl _)) (fun _ _ h=>h)
theorem blk_belowV {M b:Nat} {t:TypeId} {w w':World} {cs:Array Value} (h:Blk w b t cs) (k:Below M w w') (hM:w.heap.size≤M):Blk w' b t cs :=
 h.kept (Kp.of_below (X:=fun _=>False) (k.mono hM)) (fun h=>h)
theorem TxI.step (h:TxI w wr ce u5 xs its v6 n) (k:Below wr.heap.size wr w3):TxI w w3 ce u5 xs its v6 n :=
 ⟨h.below.trans (k.mono h.below.size),blk_belowV h.blk k (Nat.le_refl _),row_belowV h.list k (Nat.le_refl _),row_belowV h.items k (Nat.le_refl _),h.len⟩
structure TxV (w wr:World) (ce:Array Value) (u5:Value) (vs:List Value) (its:List (List UInt8 × List UInt8)) (v6:Value) (n:Nat):Prop where
 below:Below w.heap.size w wr
 blk:Blk wr w.heap.size 28 ce
 list:wr.ownsRow w.heap.size 9 1 u5 vs.length vs
 items:wr.ownsRow w.heap.size 59 2 v6 n (its.flatMap itV)
 len:its.length=n
theorem TxI.list1 (h:TxI w wr ce u5 xs its v6 n) (k:Ku w.heap.size (fun _ u=>u=9) wr w3) {m:Nat} {ys:List Value} (ho:w3.ownsRow w.heap.size 9 1 v' m ys):TxV w w3 ce v' ys its v6 n :=
 ⟨h.below.trans k.below,h.blk.keptU k (by decide),by have:=ho.1;rw [Nat.mul_one] at this;rw [this];exact ho,ownsRow_keptU h.items k (fun _ _=>by decide),h.len⟩
theorem TxV.conv {vs:List Value} (h:TxV w wr ce u5 vs its v6 n) (e:vs=xs.map strL):TxI w wr ce u5 xs its v6 n :=
 ⟨h.below,h.blk,by have:=h.list;rw [e,List.length_map] at this;exact this,h.items,h.len⟩
end
theorem TxI.item {w wr w3:World} {ce:Array Value} {u5 v6 v':Value} {xs:List (List UInt8)} {its:List (List UInt8 × List UInt8)} {n:Nat} (h:TxI w wr ce u5 xs its v6 n) (k:Ku w.heap.size (fun _ u=>u=59) wr w3) {x:List UInt8 × List UInt8} {news:List Value}
   (ho:w3.ownsRow w.heap.size 59 2 v' (n+1) (its.flatMap itV++news)) (hx:itV x=news) {its':List (List UInt8 × List UInt8)} (hi:its'=its++[x]):TxI w w3 ce u5 xs its' v' (n+1):=by
 subst hi
 refine ⟨h.below.trans k.below,h.blk.keptU k (by decide),ownsRow_keptU h.list k (fun _ _=>by decide),?_,by simp [h.len]⟩
 rw [List.flatMap_append,List.flatMap_cons,List.flatMap_nil,List.append_nil,hx]
 exact ho
theorem TxI.sec {w wr w3:World} {ce:Array Value} {u5 v6 v':Value} {xs ys:List (List UInt8)} {its:List (List UInt8 × List UInt8)} {n:Nat} (h:TxI w wr ce u5 xs its v6 n) (k:Ku w.heap.size (fun _ u=>u=9) wr w3) {zs:List (List UInt8)} (hz:zs=xs++ys)
   (ho:w3.ownsRow w.heap.size 9 1 v' (xs.length+ys.length) (xs.map strL++ys.map strL)):TxI w w3 ce v' zs [] (.slice none 0 0) 0:=by
 subst hz
 refine ⟨h.below.trans k.below,h.blk.keptU k (by decide),?_,own_nil2 _ _,rfl⟩
 rw [List.length_append,List.map_append]
 exact ho
theorem flat_at (its:List (List UInt8 × List UInt8)):∀ (i j:Nat) (x:List UInt8 × List UInt8) (y:Value),its[i]?=some x→(itV x)[j]?=some y→(its.flatMap itV)[i * 2+j]?=some y:=by
 induction its with
 | nil=>intro i j x y h;simp at h
 | cons a its ih =>
   intro i j x y h hy
   have hjl:j < 2:=by have:=(List.getElem?_eq_some_iff.1 hy).1;simpa [itV] using this
   rw [List.flatMap_cons]
   match i,h with
   | 0,h =>
     simp only [List.getElem?_cons_zero,Option.some.injEq] at h
     subst h
     rw [Nat.zero_mul,Nat.zero_add,List.getElem?_append_left (by simp [itV];omega)]
     exact hy
   | i+1,h =>
     rw [List.getElem?_append_right (by simp [itV];omega)]
     rw [show (i+1) * 2+j - (itV a).length=i * 2+j from by simp [itV];omega]
     exact ih i j x y (by simpa using h) hy
theorem TxI.row {w wr:World} {ce:Array Value} {u5 v6:Value} {xs:List (List UInt8)} {its:List (List UInt8 × List UInt8)} {n:Nat} (h:TxI w wr ce u5 xs its v6 n):RowV wr v6 2 (its.map itV):=by
 have hl:=h.len
 rcases h.items.2 with ⟨e,h0⟩ | ⟨g,cap,cur,e,hg,hh,hc1,hc2,hc3,hc4⟩
 · obtain rfl:its=[]:=List.length_eq_zero_iff.1 (by omega)
   exact ⟨none,0,by rw [e];rfl,by simp,fun i x hx=>by simp at hx⟩
 · refine ⟨some ⟨g,0,none⟩,cap,by rw [e,List.length_map,hl],by rw [List.length_map,hl];exact hc1,fun i x hx=>⟨g,0,rfl,fun j y hy=>?_⟩⟩
   rw [List.getElem?_map] at hx
   obtain ⟨x',h1,h2⟩:=Option.map_eq_some_iff.1 hx
   subst h2
   have hil:=(List.getElem?_eq_some_iff.1 h1).1
   have hjl:j < 2:=by have:=(List.getElem?_eq_some_iff.1 hy).1;simpa [itV] using this
   have ho:=h.items
   rw [e] at ho
   rw [Nat.zero_add,ho.cellAt (i * 2+j) (by omega)]
   exact flat_at its i j x' y h1 hy
theorem ret_why (r:CRet):(retI r).why=r.why:=by unfold retI;split <;> rfl
theorem nice_len {p:List UInt8} (h:p=[]∨VerL p):p.length≤1000:=by
 rcases h with rfl | h
 · simp
 · have:=h.all.1;omega
theorem verT_len (p v:List UInt8) (h1:p.length≤1000) (h2:v.length≤50):(verT p v).length≤1100:=by
 unfold verT;split <;> simp <;> omega
theorem verT_size (p v:List UInt8) (h1:p.length≤1000) (h2:v.length≤1000):(mkS (verT p v)).size≤3000:=by
 rw [mkS_size];unfold verT;split <;> simp <;> omega
theorem verO_len {p:List UInt8} (h:p=[]∨VerL p):p.length≤50:=by
 rcases h with rfl | h
 · simp
 · exact h.all.1
theorem its_len (c:Cont) (hc:ContF c):(∀ x ∈ c.reqs.map (fun r=>itP (reqI r)),x.1.length≤2000∧x.2.length≤2000)∧(∀ x ∈ c.excs.map (fun r=>itP (excI r)),x.1.length≤2000∧x.2.length≤2000) ∧
   (∀ x ∈ c.reps.map (fun r=>itP (repI r)),x.1.length≤2000∧x.2.length≤2000)∧(∀ x ∈ c.rets.map (fun r=>itP (retI r)),x.1.length≤2000∧x.2.length≤2000)∧(∀ x ∈ c.tools.map (fun r=>itP (pthI r)),x.1.length≤2000∧x.2.length≤2000)∧(∀ x ∈ c.igns.map (fun r=>itP (pthI r)),x.1.length≤2000∧x.2.length≤2000):=by
 refine ⟨?_,?_,?_,?_,?_,?_⟩ <;> intro x hx <;> obtain ⟨r,hr,rfl⟩:=List.mem_map.1 hx
 · obtain ⟨h1,h2⟩:=hc.reqs r hr
   have:=path_len h1
   have:=h2.all.1
   refine ⟨by simp [itP,reqI],?_⟩
   show (itmT (reqI r)).length≤2000
   rw [req_txt]
   cases r.ind <;> simp [indT] <;> omega
 · obtain ⟨h1,h2⟩:=hc.excs r hr
   have:=path_len h1
   have:=h2.all.1
   refine ⟨by simp [itP,excI],?_⟩
   show (itmT (excI r)).length≤2000
   rw [exc_txt]
   have:=verT_len r.p r.v (by omega) (by omega)
   omega
 · obtain ⟨h1,h2,h3,h4⟩:=hc.reps r hr
   have:=path_len h1
   have:=verO_len h2
   have:=h3.len
   have:=verO_len h4
   refine ⟨by simp [itP,repI],?_⟩
   show (itmT (repI r)).length≤2000
   rw [rep_txt]
   have e1:(verT r.op r.ov).length≤200:=by unfold verT;split <;> simp <;> omega
   have:=verT_len r.np r.nv (by omega) (by omega)
   simp only [List.length_append,List.length_cons]
   omega
 · obtain ⟨h1,h2,h3⟩:=hc.rets r hr
   have:=h1.all.1
   have:=h2.all.1
   have:=h3.len
   refine ⟨by show (retI r).why.length≤2000;rw [ret_why];omega,?_⟩
   show (itmT (retI r)).length≤2000
   rw [ret_txt]
   split
   · omega
   · simp;omega
 · have:=(hc.tools r hr).len
   refine ⟨by simp [itP,pthI],?_⟩
   show (itmT (pthI r)).length≤2000
   rw [pth_txt];omega
 · have:=(hc.igns r hr).len
   refine ⟨by simp [itP,pthI],?_⟩
   show (itmT (pthI r)).length≤2000
   rw [pth_txt];omega
theorem secS_count (v:List UInt8) (is:List (List UInt8 × List UInt8)) (blk:Bool) (h:is.length≤100):(secS v is blk).length≤100:=by
 unfold secS
 split
 · simp
 · simpa using h
theorem take_map {α β:Type} {l:List α} {f:α→β} {j:Nat} (h:j < l.length):(l.take (j+1)).map f=(l.take j).map f++[f l[j]]:=by
 rw [List.take_add_one,List.getElem?_eq_getElem h,List.map_append]
 rfl
theorem lnsT_len (is:List (List UInt8 × List UInt8)) (h:∀ x ∈ is,x.1.length≤2000∧x.2.length≤2000):(lnsT is).length≤is.length * 4500:=by
 induction is with
 | nil=>simp [lnsT]
 | cons a is ih =>
   have h1:=h a (List.mem_cons_self ..)
   have h2:=ih (fun x hx=>h x (List.mem_cons_of_mem _ hx))
   have e:lnsT (a :: is)=lnT1 a++lnsT is:=by simp [lnsT]
   have h3:(lnT1 a).length≤4500:=by
     unfold lnT1 whyT
     split <;> simp <;> omega
   rw [e,List.length_append,List.length_cons,Nat.add_mul]
   omega
theorem secS_bound (v:List UInt8) (is:List (List UInt8 × List UInt8)) (blk:Bool) (hv:v.length≤20) (hn:is.length≤100) (h:∀ x ∈ is,x.1.length≤2000∧x.2.length≤2000):∀ y ∈ secS v is blk,y.length≤500000:=by
 intro y hy
 unfold secS at hy
 split at hy
 · obtain rfl:=List.mem_singleton.1 hy
   have:=lnsT_len is h
   have:is.length * 4500≤450000:=by omega
   simp only [List.length_append,List.length_cons,List.length_nil]
   omega
 · obtain ⟨x,hx,rfl⟩:=List.mem_map.1 hy
   have h1:=h x hx
   unfold stmT whyT
   split <;> simp <;> omega
theorem optS_bound (v p:List UInt8) (hv:v.length≤20) (hp:p.length≤1000):∀ y ∈ optS v p,y.length≤500000:=by
 intro y hy
 unfold optS at hy
 split at hy
 · cases hy
 · obtain rfl:=List.mem_singleton.1 hy
   simp only [List.length_append,List.length_cons,List.length_nil]
   omega
theorem listS_bound (c:Cont) (hc:ContF c) (blk:Bool):∀ y ∈ listS c blk,y.length≤500000:=by
 obtain ⟨i1,i2,i3,i4,i5,i6⟩:=its_len c hc
 intro y hy
 simp only [listS,listS8,listS7,listS6,listS5,listS4,listS3,listS2,listS1,List.mem_append] at hy
 rcases hy with (((((((hy | hy) | hy) | hy) | hy) | hy) | hy) | hy) | hy
 · refine secS_bound _ _ _ (by decide) (by simp) (fun x hx=>?_) y hy
   obtain rfl:=List.mem_singleton.1 hx
   exact ⟨by simp,by have:=path_len hc.mod;show c.mod.length≤2000;omega⟩
 · exact optS_bound _ _ (by decide) (go_len hc.go) y hy
 · exact optS_bound _ _ (by decide) (go_len hc.tc) y hy
 · exact secS_bound _ _ _ (by decide) (by rw [List.length_map];exact hc.n1) i1 y hy
 · exact secS_bound _ _ _ (by decide) (by rw [List.length_map];exact hc.n2) i2 y hy
 · exact secS_bound _ _ _ (by decide) (by rw [List.length_map];exact hc.n3) i3 y hy
 · exact secS_bound _ _ _ (by decide) (by rw [List.length_map];exact hc.n4) i4 y hy
 · exact secS_bound _ _ _ (by decide) (by rw [List.length_map];exact hc.n5) i5 y hy
 · exact secS_bound _ _ _ (by decide) (by rw [List.length_map];exact hc.n6) i6 y hy
theorem row_str {N:Nat} {w:World} {la:Option Addr} {lc:Nat} {xs:List (List UInt8)} (h:w.ownsRow N 9 1 (.slice la xs.length lc) xs.length (xs.map strL)) {i:Nat} {x:List UInt8} (hx:xs[i]?=some x):∃ b,la=some ⟨b,0,none⟩∧w.cell? ⟨b,i,none⟩=some (.string (mkS x)):=by
 have hi:=(List.getElem?_eq_some_iff.1 hx).1
 rcases h.2 with ⟨_,h2⟩ | ⟨g,cap,cur,e1,hg,hh,hc1,hc2,hc3,hc4⟩
 · omega
 · injection e1 with e1 _ e3
   subst e1 e3
   refine ⟨g,rfl,?_⟩
   rw [h.cellAt i (by omega),List.getElem?_map,hx]
   rfl
end
end Go.Proofs.YtifkpibjeamfkaaGreatFmt
