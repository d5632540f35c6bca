/-
  Contents in memory; the bounds of their texts (zzFits).
  The reference's Cut at any sign; its parts put together again; number, long.
  The reference's number, long.
-/
import Derived.Test.YtifkpibjeamfkaaGreatFmtZ29
import Derived.Test.YtifkpibjeamfkaaGreatFmtZ11
import Derived.Test.YtifkpibjeamfkaaGreatFmtZ14
set_option linter.unusedVariables false
set_option linter.unusedSimpArgs false
set_option maxRecDepth 100000
namespace Go.Proofs.YtifkpibjeamfkaaGreatFmt
section
open Go.RowKit Go.Proofs
def RowV (w:World) (v:Value) (k:Nat) (xs:List (List Value)):Prop :=
 ∃ a cap,v=.slice a xs.length cap∧xs.length≤cap∧(∀ i x,xs[i]?=some x→∃ b o,a=some ⟨b,o,none⟩∧∀ j y,x[j]?=some y→w.cell? ⟨b,o+i * k+j,none⟩=some y)
theorem RowV.below {w w':World} {v:Value} {k:Nat} {xs:List (List Value)} (h:RowV w v k xs) (hb:Below w.heap.size w w'):RowV w' v k xs:=by
 obtain ⟨a,cap,e,hc,h⟩:=h
 refine ⟨a,cap,e,hc,fun i x hx=>?_⟩
 obtain ⟨b,o,e2,h2⟩:=h i x hx
 exact ⟨b,o,e2,fun j y hy=>(hb.cell (World.block_lt_of_cell? w _ (h2 j y hy))).trans (h2 j y hy)⟩
def reqV (r:CReq):List Value:=[.string (mkS r.p),.string (mkS r.v),.bool r.ind]
def verV (r:CVer):List Value:=[.string (mkS r.p),.string (mkS r.v)]
def repV (r:CRep):List Value:=[.string (mkS r.op),.string (mkS r.ov),.string (mkS r.np),.string (mkS r.nv)]
def retV (r:CRet):List Value:=[.string (mkS r.lo),.string (mkS r.hi),.string (mkS r.why)]
def strV (s:List UInt8):List Value:=[.string (mkS s)]
def SaysB (P:Prop) (w:World) (e:Ending) (w':World):Prop:=(∃ b,e=.returned (.bool b)∧(b=true→P))∧Below w.heap.size w w'
theorem SaysB.mono {P Q:Prop} {w w':World} {e:Ending} (h:SaysB P w e w') (k:P→Q):SaysB Q w e w':=by
 obtain ⟨⟨b,e1,e2⟩,e3⟩:=h
 exact ⟨⟨b,e1,fun h=>k (e2 h)⟩,e3⟩
def szOk (l:List UInt8):Prop:=l.length≤2147483647
set_option maxHeartbeats 2000000 in
theorem zzFits3_any (r:CReq) (w:World):Calls Tryz.prog 40 #[.agg #[.string (mkS r.p),.string (mkS r.v),.bool r.ind]] w (SaysB (szOk r.p∧szOk r.v) w):=by
 obtain ⟨s,hs⟩:∃ s,s=mkS r.p:=⟨_,rfl⟩
 obtain ⟨t,ht⟩:∃ t,t=mkS r.v:=⟨_,rfl⟩
 have l1:s.size=r.p.length:=by rw [hs,mkS_size]
 have l2:t.size=r.v.length:=by rw [ht,mkS_size]
 rw [← hs,← ht]
 have hS:∀ b:Bool,(b=true→szOk r.p∧szOk r.v)→∀ w',Below w.heap.size w w'→SaysB (szOk r.p∧szOk r.v) w (.returned (.bool b)) w':=fun b h w' h'=>⟨⟨b,rfl,h⟩,h'⟩
 have HS:=hide hS
 have L:=hide (And.intro l1 l2)
 clear hS l1 l2 hs ht
 by_cases h1:(2147483647:Int) < (s.size:Int)
 · go_enter Tryz.func40,Tryz.ntmps40
   go_wp2_with fail
   go_ret
   exact HS.out false (fun h=>by cases h) _ ((Below.refl _ w).alloc (Nat.le_refl _) _)
 · by_cases h2:(2147483647:Int) < (t.size:Int)
   · go_enter Tryz.func40,Tryz.ntmps40
     go_wp2_with fail
     go_ret
     exact HS.out false (fun h=>by cases h) _ ((Below.refl _ w).alloc (Nat.le_refl _) _)
   · go_enter Tryz.func40,Tryz.ntmps40
     go_wp2_with fail
     go_ret
     exact HS.out true (fun _=>by have:=L.out.1;have:=L.out.2;unfold szOk;omega) _ ((Below.refl _ w).alloc (Nat.le_refl _) _)
set_option maxHeartbeats 2000000 in
theorem zzFits5_any (r:CVer) (w:World):Calls Tryz.prog 41 #[.agg #[.string (mkS r.p),.string (mkS r.v)]] w (SaysB (szOk r.p∧szOk r.v) w):=by
 obtain ⟨s,hs⟩:∃ s,s=mkS r.p:=⟨_,rfl⟩
 obtain ⟨t,ht⟩:∃ t,t=mkS r.v:=⟨_,rfl⟩
 have l1:s.size=r.p.length:=by rw [hs,mkS_size]
 have l2:t.size=r.v.length:=by rw [ht,mkS_size]
 rw [← hs,← ht]
 have hS:∀ b:Bool,(b=true→szOk r.p∧szOk r.v)→∀ w',Below w.heap.size w w'→SaysB (szOk r.p∧szOk r.v) w (.returned (.bool b)) w':=fun b h w' h'=>⟨⟨b,rfl,h⟩,h'⟩
 have HS:=hide hS
 have L:=hide (And.intro l1 l2)
 clear hS l1 l2 hs ht
 by_cases h1:(2147483647:Int) < (s.size:Int)
 · go_enter Tryz.func41,Tryz.ntmps41
   go_wp2_with fail
   go_ret
   exact HS.out false (fun h=>by cases h) _ ((Below.refl _ w).alloc (Nat.le_refl _) _)
 · by_cases h2:(2147483647:Int) < (t.size:Int)
   · go_enter Tryz.func41,Tryz.ntmps41
     go_wp2_with fail
     go_ret
     exact HS.out false (fun h=>by cases h) _ ((Below.refl _ w).alloc (Nat.le_refl _) _)
   · go_enter Tryz.func41,Tryz.ntmps41
     go_wp2_with fail
     go_ret
     exact HS.out true (fun _=>by have:=L.out.1;have:=L.out.2;unfold szOk;omega) _ ((Below.refl _ w).alloc (Nat.le_refl _) _)
set_option maxHeartbeats 2000000 in
theorem zzFits9_any (r:CRet) (w:World):Calls Tryz.prog 43 #[.agg #[.string (mkS r.lo),.string (mkS r.hi),.string (mkS r.why)]] w (SaysB (szOk r.lo∧szOk r.hi∧szOk r.why) w):=by
 obtain ⟨s,hs⟩:∃ s,s=mkS r.lo:=⟨_,rfl⟩
 obtain ⟨t,ht⟩:∃ t,t=mkS r.hi:=⟨_,rfl⟩
 obtain ⟨u,hu⟩:∃ t,t=mkS r.why:=⟨_,rfl⟩
 have l1:s.size=r.lo.length:=by rw [hs,mkS_size]
 have l2:t.size=r.hi.length:=by rw [ht,mkS_size]
 have l3:u.size=r.why.length:=by rw [hu,mkS_size]
 rw [← hs,← ht,← hu]
 have hS:∀ b:Bool,(b=true→szOk r.lo∧szOk r.hi∧szOk r.why)→∀ w',Below w.heap.size w w'→SaysB (szOk r.lo∧szOk r.hi∧szOk r.why) w (.returned (.bool b)) w':=fun b h w' h'=>⟨⟨b,rfl,h⟩,h'⟩
 have HS:=hide hS
 have L:=hide (And.intro l1 (And.intro l2 l3))
 clear hS l1 l2 l3 hs ht hu
 by_cases h1:(2147483647:Int) < (s.size:Int)
 · go_enter Tryz.func43,Tryz.ntmps43
   go_wp2_with fail
   go_ret
   exact HS.out false (fun h=>by cases h) _ ((Below.refl _ w).alloc (Nat.le_refl _) _)
 · by_cases h2:(2147483647:Int) < (t.size:Int)
   · go_enter Tryz.func43,Tryz.ntmps43
     go_wp2_with fail
     go_ret
     exact HS.out false (fun h=>by cases h) _ ((Below.refl _ w).alloc (Nat.le_refl _) _)
   · by_cases h3:(2147483647:Int) < (u.size:Int)
     · go_enter Tryz.func43,Tryz.ntmps43
       go_wp2_with fail
       go_ret
       exact HS.out false (fun h=>by cases h) _ ((Below.refl _ w).alloc (Nat.le_refl _) _)
     · go_enter Tryz.func43,Tryz.ntmps43
       go_wp2_with fail
       go_ret
       exact HS.out true (fun _=>by have:=L.out.1;have:=L.out.2;unfold szOk;omega) _ ((Below.refl _ w).alloc (Nat.le_refl _) _)
set_option maxHeartbeats 2000000 in
theorem zzFits7_any (r:CRep) (w:World):Calls Tryz.prog 42 #[.agg #[.string (mkS r.op),.string (mkS r.ov),.string (mkS r.np),.string (mkS r.nv)]] w (SaysB ((szOk r.op∧szOk r.ov)∧szOk r.np∧szOk r.nv) w):=by
 have h1:=fun w=>zzFits5_any ⟨r.op,r.ov⟩ w
 have h2:=fun w=>zzFits5_any ⟨r.np,r.nv⟩ w
 have H1:=hide h1
 have H2:=hide h2
 clear h1 h2
 go_enter Tryz.func42,Tryz.ntmps42
 go_wp2_with fail
 go_fit (H1.out _)
 rintro e w1 ⟨⟨b1,rfl,hb1⟩,hw1⟩
 have k0:=(hw1.cell (p:=⟨w.heap.size,2,none⟩) (by simp)).trans ((Blk.new w 50 #[.string (mkS r.op),.string (mkS r.ov),.string (mkS r.np),.string (mkS r.nv)]).cell 2 rfl)
 have k1:=(hw1.cell (p:=⟨w.heap.size,3,none⟩) (by simp)).trans ((Blk.new w 50 #[.string (mkS r.op),.string (mkS r.ov),.string (mkS r.np),.string (mkS r.nv)]).cell 3 rfl)
 have hw:=((Below.refl _ w).alloc (Nat.le_refl _) (Obj.cells #[.string (mkS r.op),.string (mkS r.ov),.string (mkS r.np),.string (mkS r.nv)] 50)).trans (hw1.mono (by simp))
 have HW:=hide hw
 have HB1:=hide hb1
 clear hw hw1 hb1
 cases b1 with
 | false =>
   go_wp2_with fail
   go_ret
   exact ⟨⟨false,rfl,fun h=>by cases h⟩,HW.out⟩
 | true =>
   have HB1t:=hide (HB1.out rfl)
   go_wp2_with fail
   go_fit (H2.out _)
   rintro e w2 ⟨⟨b2,rfl,hb2⟩,hw2⟩
   have HB2:=hide hb2
   have HW2:=hide (HW.out.trans (hw2.mono HW.out.size))
   clear hb2 hw2
   cases b2 with
   | false =>
     go_wp2_with fail
     go_ret
     exact ⟨⟨false,rfl,fun h=>by cases h⟩,HW2.out⟩
   | true =>
     have HB2t:=hide (HB2.out rfl)
     go_wp2_with fail
     go_ret
     exact ⟨⟨true,rfl,fun _=>⟨HB1t.out,HB2t.out⟩⟩,HW2.out⟩
theorem take_next {α:Type} {l:List α} {p:α→Prop} {j:Nat} (hj:j < l.length) (h:∀ x ∈ l.take j,p x) (h1:p l[j]):∀ x ∈ l.take (j+1),p x:=by
 intro x hx
 rw [List.take_add_one,List.getElem?_eq_getElem hj] at hx
 rcases List.mem_append.1 hx with hx | hx
 · exact h x hx
 · simp at hx;rw [hx];exact h1
set_option maxHeartbeats 2000000 in
theorem zzFits2_any (l:List (CReq)) (v:Value) (w:World) (h:RowV w v 3 (l.map reqV)):Calls Tryz.prog 19 #[v] w (SaysB (l.length≤2147483647∧∀ r ∈ l,szOk r.p∧szOk r.v) w):=by
 obtain ⟨a,cap,rfl,hc,hx⟩:=h
 simp only [List.length_map] at hc hx ⊢
 have hS:∀ b:Bool,(b=true→l.length≤2147483647∧∀ r ∈ l,szOk r.p∧szOk r.v)→∀ w',Below w.heap.size w w'→SaysB (l.length≤2147483647∧∀ r ∈ l,szOk r.p∧szOk r.v) w (.returned (.bool b)) w':=fun b h w' h'=>⟨⟨b,rfl,h⟩,h'⟩
 have HS:=hide hS
 have HX:=hide hx
 clear hS hx
 by_cases h1:(2147483647:Int) < (l.length:Int)
 · go_enter Tryz.func19,Tryz.ntmps19
   go_wp2_with fail
   go_ret
   exact HS.out false (fun h=>by cases h) _ (Below.refl _ w)
 · go_enter Tryz.func19,Tryz.ntmps19
   go_wp2_with fail
   go_loopg [10] l.length (fun k v10 wr=>∃ j:Nat,j+k=l.length∧v10=.int .i64 (j:Int)∧Hid (Below w.heap.size w wr∧∀ r ∈ l.take j,szOk r.p∧szOk r.v))
   case atStart=>exact ⟨0,by omega,rfl,hide ⟨Below.refl _ _,by simp⟩⟩
   case round =>
     obtain ⟨j,hj,rfl,HI⟩:=hrel
     rcases Nat.lt_or_ge j l.length with hlt | hge
     · have hr:l[j]?=some l[j]:=List.getElem?_eq_getElem hlt
       obtain ⟨b,o,rfl,hcell⟩:=HX.out j (reqV l[j]) (by rw [List.getElem?_map,hr];rfl)
       have c0:w.cell? ⟨b,o+j * 3,none⟩=some (.string (mkS l[j].p)):=hcell 0 _ rfl
       have c1:w.cell? ⟨b,o+j * 3+1,none⟩=some (.string (mkS l[j].v)):=hcell 1 _ rfl
       have c2:w.cell? ⟨b,o+j * 3+2,none⟩=some (.bool l[j].ind):=hcell 2 _ rfl
       have k0:=(HI.out.1.cell (World.block_lt_of_cell? w _ c0)).trans c0
       have k1:=(HI.out.1.cell (World.block_lt_of_cell? w _ c1)).trans c1
       have k2:=(HI.out.1.cell (World.block_lt_of_cell? w _ c2)).trans c2
       have bl:=HI.out.1.size
       have bl0:=World.block_lt_of_cell? w _ c0
       clear hcell c0 c1 c2
       go_wp2_with fail
       go_fit (zzFits3_any l[j] _)
       rintro e w1 ⟨⟨bb,rfl,hbb⟩,hb1⟩
       have hb2:=(HI.out.1.alloc bl (Obj.cells #[.string (mkS l[j].p),.string (mkS l[j].v),.bool l[j].ind] 46)).trans (hb1.mono (by simp;omega))
       have HB:=hide hb2
       have HBB:=hide hbb
       clear hb1 hb2 hbb
       cases bb with
       | false =>
         go_wp2_with fail
         go_ret
         exact HS.out false (fun h=>by cases h) _ HB.out
       | true =>
         have HBBt:=hide (HBB.out rfl)
         go_wp2_with fail
         go_roundg (l.length - (j+1))
         case measure=>omega
         case rel=>exact ⟨j+1,by omega,by simp,hide ⟨HB.out,take_next hlt HI.out.2 HBBt.out⟩⟩
     · obtain rfl:j=l.length:=by omega
       go_wp2_with fail
       go_ret
       exact HS.out true (fun _=>⟨by omega,by simpa using HI.out.2⟩) _ HI.out.1
set_option maxHeartbeats 2000000 in
theorem zzFits4_any (l:List (CVer)) (v:Value) (w:World) (h:RowV w v 2 (l.map verV)):Calls Tryz.prog 20 #[v] w (SaysB (l.length≤2147483647∧∀ r ∈ l,szOk r.p∧szOk r.v) w):=by
 obtain ⟨a,cap,rfl,hc,hx⟩:=h
 simp only [List.length_map] at hc hx ⊢
 have hS:∀ b:Bool,(b=true→l.length≤2147483647∧∀ r ∈ l,szOk r.p∧szOk r.v)→∀ w',Below w.heap.size w w'→SaysB (l.length≤2147483647∧∀ r ∈ l,szOk r.p∧szOk r.v) w (.returned (.bool b)) w':=fun b h w' h'=>⟨⟨b,rfl,h⟩,h'⟩
 have HS:=hide hS
 have HX:=hide hx
 clear hS hx
 by_cases h1:(2147483647:Int) < (l.length:Int)
 · go_enter Tryz.func20,Tryz.ntmps20
   go_wp2_with fail
   go_ret
   exact HS.out false (fun h=>by cases h) _ (Below.refl _ w)
 · go_enter Tryz.func20,Tryz.ntmps20
   go_wp2_with fail
   go_loopg [10] l.length (fun k v10 wr=>∃ j:Nat,j+k=l.length∧v10=.int .i64 (j:Int)∧Hid (Below w.heap.size w wr∧∀ r ∈ l.take j,szOk r.p∧szOk r.v))
   case atStart=>exact ⟨0,by omega,rfl,hide ⟨Below.refl _ _,by simp⟩⟩
   case round =>
     obtain ⟨j,hj,rfl,HI⟩:=hrel
     rcases Nat.lt_or_ge j l.length with hlt | hge
     · have hr:l[j]?=some l[j]:=List.getElem?_eq_getElem hlt
       obtain ⟨b,o,rfl,hcell⟩:=HX.out j (verV l[j]) (by rw [List.getElem?_map,hr];rfl)
       have c0:w.cell? ⟨b,o+j * 2,none⟩=some (.string (mkS l[j].p)):=hcell 0 _ rfl
       have c1:w.cell? ⟨b,o+j * 2+1,none⟩=some (.string (mkS l[j].v)):=hcell 1 _ rfl
       have k0:=(HI.out.1.cell (World.block_lt_of_cell? w _ c0)).trans c0
       have k1:=(HI.out.1.cell (World.block_lt_of_cell? w _ c1)).trans c1
       have bl:=HI.out.1.size
       have bl0:=World.block_lt_of_cell? w _ c0
       clear hcell c0 c1
       go_wp2_with fail
       go_fit (zzFits5_any l[j] _)
       rintro e w1 ⟨⟨bb,rfl,hbb⟩,hb1⟩
       have hb2:=(HI.out.1.alloc bl (Obj.cells #[.string (mkS l[j].p),.string (mkS l[j].v)] 48)).trans (hb1.mono (by simp;omega))
       have HB:=hide hb2
       have HBB:=hide hbb
       clear hb1 hb2 hbb
       cases bb with
       | false =>
         go_wp2_with fail
         go_ret
         exact HS.out false (fun h=>by cases h) _ HB.out
       | true =>
         have HBBt:=hide (HBB.out rfl)
         go_wp2_with fail
         go_roundg (l.length - (j+1))
         case measure=>omega
         case rel=>exact ⟨j+1,by omega,by simp,hide ⟨HB.out,take_next hlt HI.out.2 HBBt.out⟩⟩
     · obtain rfl:j=l.length:=by omega
       go_wp2_with fail
       go_ret
       exact HS.out true (fun _=>⟨by omega,by simpa using HI.out.2⟩) _ HI.out.1
set_option maxHeartbeats 2000000 in
theorem zzFits6_any (l:List (CRep)) (v:Value) (w:World) (h:RowV w v 4 (l.map repV)):Calls Tryz.prog 21 #[v] w (SaysB (l.length≤2147483647∧∀ r ∈ l,(szOk r.op∧szOk r.ov)∧szOk r.np∧szOk r.nv) w):=by
 obtain ⟨a,cap,rfl,hc,hx⟩:=h
 simp only [List.length_map] at hc hx ⊢
 have hS:∀ b:Bool,(b=true→l.length≤2147483647∧∀ r ∈ l,(szOk r.op∧szOk r.ov)∧szOk r.np∧szOk r.nv)→∀ w',Below w.heap.size w w'→SaysB (l.length≤2147483647∧∀ r ∈ l,(szOk r.op∧szOk r.ov)∧szOk r.np∧szOk r.nv) w (.returned (.bool b)) w':=fun b h w' h'=>⟨⟨b,rfl,h⟩,h'⟩
 have HS:=hide hS
 have HX:=hide hx
 clear hS hx
 by_cases h1:(2147483647:Int) < (l.length:Int)
 · go_enter Tryz.func21,Tryz.ntmps21
   go_wp2_with fail
   go_ret
   exact HS.out false (fun h=>by cases h) _ (Below.refl _ w)
 · go_enter Tryz.func21,Tryz.ntmps21
   go_wp2_with fail
   go_loopg [10] l.length (fun k v10 wr=>∃ j:Nat,j+k=l.length∧v10=.int .i64 (j:Int)∧Hid (Below w.heap.size w wr∧∀ r ∈ l.take j,(szOk r.op∧szOk r.ov)∧szOk r.np∧szOk r.nv))
   case atStart=>exact ⟨0,by omega,rfl,hide ⟨Below.refl _ _,by simp⟩⟩
   case round =>
     obtain ⟨j,hj,rfl,HI⟩:=hrel
     rcases Nat.lt_or_ge j l.length with hlt | hge
     · have hr:l[j]?=some l[j]:=List.getElem?_eq_getElem hlt
       obtain ⟨b,o,rfl,hcell⟩:=HX.out j (repV l[j]) (by rw [List.getElem?_map,hr];rfl)
       have c0:w.cell? ⟨b,o+j * 4,none⟩=some (.string (mkS l[j].op)):=hcell 0 _ rfl
       have c1:w.cell? ⟨b,o+j * 4+1,none⟩=some (.string (mkS l[j].ov)):=hcell 1 _ rfl
       have c2:w.cell? ⟨b,o+j * 4+2,none⟩=some (.string (mkS l[j].np)):=hcell 2 _ rfl
       have c3:w.cell? ⟨b,o+j * 4+3,none⟩=some (.string (mkS l[j].nv)):=hcell 3 _ rfl
       have k0:=(HI.out.1.cell (World.block_lt_of_cell? w _ c0)).trans c0
       have k1:=(HI.out.1.cell (World.block_lt_of_cell? w _ c1)).trans c1
       have k2:=(HI.out.1.cell (World.block_lt_of_cell? w _ c2)).trans c2
       have k3:=(HI.out.1.cell (World.block_lt_of_cell? w _ c3)).trans c3
       have bl:=HI.out.1.size
       have bl0:=World.block_lt_of_cell? w _ c0
       clear hcell c0 c1 c2 c3
       go_wp2_with fail
       go_fit (zzFits7_any l[j] _)
       rintro e w1 ⟨⟨bb,rfl,hbb⟩,hb1⟩
       have hb2:=(HI.out.1.alloc bl (Obj.cells #[.string (mkS l[j].op),.string (mkS l[j].ov),.string (mkS l[j].np),.string (mkS l[j].nv)] 50)).trans (hb1.mono (by simp;omega))
       have HB:=hide hb2
       have HBB:=hide hbb
       clear hb1 hb2 hbb
       cases bb with
       | false =>
         go_wp2_with fail
         go_ret
         exact HS.out false (fun h=>by cases h) _ HB.out
       | true =>
         have HBBt:=hide (HBB.out rfl)
         go_wp2_with fail
         go_roundg (l.length - (j+1))
         case measure=>omega
         case rel=>exact ⟨j+1,by omega,by simp,hide ⟨HB.out,take_next hlt HI.out.2 HBBt.out⟩⟩
     · obtain rfl:j=l.length:=by omega
       go_wp2_with fail
       go_ret
       exact HS.out true (fun _=>⟨by omega,by simpa using HI.out.2⟩) _ HI.out.1
set_option maxHeartbeats 2000000 in
theorem zzFits8_any (l:List (CRet)) (v:Value) (w:World) (h:RowV w v 3 (l.map retV)):Calls Tryz.prog 22 #[v] w (SaysB (l.length≤2147483647∧∀ r ∈ l,szOk r.lo∧szOk r.hi∧szOk r.why) w):=by
 obtain ⟨a,cap,rfl,hc,hx⟩:=h
 simp only [List.length_map] at hc hx ⊢
 have hS:∀ b:Bool,(b=true→l.length≤2147483647∧∀ r ∈ l,szOk r.lo∧szOk r.hi∧szOk r.why)→∀ w',Below w.heap.size w w'→SaysB (l.length≤2147483647∧∀ r ∈ l,szOk r.lo∧szOk r.hi∧szOk r.why) w (.returned (.bool b)) w':=fun b h w' h'=>⟨⟨b,rfl,h⟩,h'⟩
 have HS:=hide hS
 have HX:=hide hx
 clear hS hx
 by_cases h1:(2147483647:Int) < (l.length:Int)
 · go_enter Tryz.func22,Tryz.ntmps22
   go_wp2_with fail
   go_ret
   exact HS.out false (fun h=>by cases h) _ (Below.refl _ w)
 · go_enter Tryz.func22,Tryz.ntmps22
   go_wp2_with fail
   go_loopg [10] l.length (fun k v10 wr=>∃ j:Nat,j+k=l.length∧v10=.int .i64 (j:Int)∧Hid (Below w.heap.size w wr∧∀ r ∈ l.take j,szOk r.lo∧szOk r.hi∧szOk r.why))
   case atStart=>exact ⟨0,by omega,rfl,hide ⟨Below.refl _ _,by simp⟩⟩
   case round =>
     obtain ⟨j,hj,rfl,HI⟩:=hrel
     rcases Nat.lt_or_ge j l.length with hlt | hge
     · have hr:l[j]?=some l[j]:=List.getElem?_eq_getElem hlt
       obtain ⟨b,o,rfl,hcell⟩:=HX.out j (retV l[j]) (by rw [List.getElem?_map,hr];rfl)
       have c0:w.cell? ⟨b,o+j * 3,none⟩=some (.string (mkS l[j].lo)):=hcell 0 _ rfl
       have c1:w.cell? ⟨b,o+j * 3+1,none⟩=some (.string (mkS l[j].hi)):=hcell 1 _ rfl
       have c2:w.cell? ⟨b,o+j * 3+2,none⟩=some (.string (mkS l[j].why)):=hcell 2 _ rfl
       have k0:=(HI.out.1.cell (World.block_lt_of_cell? w _ c0)).trans c0
       have k1:=(HI.out.1.cell (World.block_lt_of_cell? w _ c1)).trans c1
       have k2:=(HI.out.1.cell (World.block_lt_of_cell? w _ c2)).trans c2
       have bl:=HI.out.1.size
       have bl0:=World.block_lt_of_cell? w _ c0
       clear hcell c0 c1 c2
       go_wp2_with fail
       go_fit (zzFits9_any l[j] _)
       rintro e w1 ⟨⟨bb,rfl,hbb⟩,hb1⟩
       have hb2:=(HI.out.1.alloc bl (Obj.cells #[.string (mkS l[j].lo),.string (mkS l[j].hi),.string (mkS l[j].why)] 53)).trans (hb1.mono (by simp;omega))
       have HB:=hide hb2
       have HBB:=hide hbb
       clear hb1 hb2 hbb
       cases bb with
       | false =>
         go_wp2_with fail
         go_ret
         exact HS.out false (fun h=>by cases h) _ HB.out
       | true =>
         have HBBt:=hide (HBB.out rfl)
         go_wp2_with fail
         go_roundg (l.length - (j+1))
         case measure=>omega
         case rel=>exact ⟨j+1,by omega,by simp,hide ⟨HB.out,take_next hlt HI.out.2 HBBt.out⟩⟩
     · obtain rfl:j=l.length:=by omega
       go_wp2_with fail
       go_ret
       exact HS.out true (fun _=>⟨by omega,by simpa using HI.out.2⟩) _ HI.out.1
set_option maxHeartbeats 2000000 in
theorem zzFits10_any (l:List (List UInt8)) (v:Value) (w:World) (h:RowV w v 1 (l.map strV)):Calls Tryz.prog 23 #[v] w (SaysB (l.length≤2147483647∧∀ r ∈ l,szOk r) w):=by
 obtain ⟨a,cap,rfl,hc,hx⟩:=h
 simp only [List.length_map] at hc hx ⊢
 have hS:∀ b:Bool,(b=true→l.length≤2147483647∧∀ r ∈ l,szOk r)→∀ w',Below w.heap.size w w'→SaysB (l.length≤2147483647∧∀ r ∈ l,szOk r) w (.returned (.bool b)) w':=fun b h w' h'=>⟨⟨b,rfl,h⟩,h'⟩
 have HS:=hide hS
 have HX:=hide hx
 clear hS hx
 by_cases h1:(2147483647:Int) < (l.length:Int)
 · go_enter Tryz.func23,Tryz.ntmps23
   go_wp2_with fail
   go_ret
   exact HS.out false (fun h=>by cases h) _ (Below.refl _ w)
 · go_enter Tryz.func23,Tryz.ntmps23
   go_wp2_with fail
   go_loopg [10] l.length (fun k v10 wr=>∃ j:Nat,j+k=l.length∧v10=.int .i64 (j:Int)∧Hid (Below w.heap.size w wr∧∀ r ∈ l.take j,szOk r))
   case atStart=>exact ⟨0,by omega,rfl,hide ⟨Below.refl _ _,by simp⟩⟩
   case round =>
     obtain ⟨j,hj,rfl,HI⟩:=hrel
     rcases Nat.lt_or_ge j l.length with hlt | hge
     · have hr:l[j]?=some l[j]:=List.getElem?_eq_getElem hlt
       obtain ⟨b,o,rfl,hcell⟩:=HX.out j (strV l[j]) (by rw [List.getElem?_map,hr];rfl)
       have c0:w.cell? ⟨b,o+j,none⟩=some (.string (mkS l[j])):=by simpa using hcell 0 _ rfl
       have k0:=(HI.out.1.cell (World.block_lt_of_cell? w _ c0)).trans c0
       have bl:=HI.out.1.size
       have bl0:=World.block_lt_of_cell? w _ c0
       clear hcell c0
       obtain ⟨s,hs0⟩:∃ s,s=mkS l[j]:=⟨_,rfl⟩
       have hsl:s.size=l[j].length:=by rw [hs0,mkS_size]
       rw [← hs0] at k0
       have HSL:=hide hsl
       clear hs0 hsl
       by_cases hs:(2147483647:Int) < (s.size:Int)
       · go_wp2_with fail
         go_ret
         exact HS.out false (fun h=>by cases h) _ HI.out.1
       · go_wp2_with fail
         go_roundg (l.length - (j+1))
         case measure=>omega
         case rel=>exact ⟨j+1,by omega,by simp,hide ⟨HI.out.1,take_next hlt HI.out.2 (by have:=HSL.out;unfold szOk;omega)⟩⟩
     · obtain rfl:j=l.length:=by omega
       go_wp2_with fail
       go_ret
       exact HS.out true (fun _=>⟨by omega,by simpa using HI.out.2⟩) _ HI.out.1
end
section
open Go.RowKit Go.Proofs
def CutInvC (c:Nat) (s:ByteArray) (w:World) (j:Nat) (v:Value) (wr:World):Prop:=wr.ownsRow w.heap.size 9 1 v (cutOut s c j).length (cutOut s c j)∧Below w.heap.size w wr
set_option maxHeartbeats 2000000 in
theorem cut_c (c:Nat) (s:ByteArray) (w:World) (hs:s.size≤2147483647) :
   Calls Tryz.prog 29 #[.string s,.int .u8 (c:Int)] w fun e w'=>∃ v,e=.returned v∧Below w.heap.size w w'∧w'.ownsRow w.heap.size 9 1 v (cutL s c).length (cutL s c):=by
 obtain ⟨i0,hi0,hz0,hz1,hz2⟩:=info_parts Tryz.infoStr
 go_enter Tryz.func29,Tryz.ntmps29
 go_wp2_with fail
 go_loopg [5,6,7] s.size (fun k v5 v6 v7 wr=>∃ j:Nat,j+k=s.size∧v7=.int .i64 (j:Int)∧v6=.int .i64 (cutFrom s c j:Nat)∧Hid (CutInvC c s w j v5 wr))
 case atStart =>
   refine ⟨0,by omega,rfl,rfl,hide ⟨?_,(Below.refl _ _).alloc (Nat.le_refl _) _⟩⟩
   have:=owns_new w w.heap.size 9 #[] (Nat.le_refl _) (by simp [maxLen])
   simpa [cutOut] using this
 case round =>
   obtain ⟨j,hj,rfl,rfl,HI⟩:=hrel
   have hfj:=cutFrom_le s c j
   have hol:=cutOut_le s c j
   have hwl:w.heap.size≤wr.heap.size:=HI.out.2.size
   rcases Nat.lt_or_ge j s.size with hlt | hge
   · have hget:(s[j]'hlt).toNat=bt s j:=bt_get s j hlt
     by_cases h47:bt s j=c
     · have g:((bt s j:Int) == (c:Int))=true:=by rw [h47];simp
       have z0:(0:Int)≤(cutFrom s c j:Nat):=by omega
       have z1:((cutFrom s c j:Nat):Int)≤(j:Int):=by omega
       have z2:(j:Int)≤(s.size:Int):=by omega
       have H47:=hide h47
       have hm1:(cutOut s c j).length+1≤maxLen:=by unfold maxLen;omega
       have hm2:((cutOut s c j).length+1) * 16≤140737488355328:=by omega
       have M:=hide (And.intro hm1 hm2)
       clear h47 hm1 hm2 hfj
       go_wp2_with (at_builtin;refine wpList_append_lies _ rfl _ _ _ rfl w.heap.size 9 i0 _ 1 16 Tryz.und_strs hi0 hz0 hz1 hz2 rfl (by omega) _ _ _ (by rfl) (HI.out.1.alloc _) ⟨wr.heap.size,0,none⟩ 1 1 [.string (s.extract (cutFrom s c j) j)] (by rfl) (by rfl) (news_one _ _ _) (by simp [Value.oneCell']) (by omega) M.out.1 M.out.2 (by simp;omega) (wr.heap.size+1) (by simp) ?_;intro gg cap w3 hown3 hgrow3 hat3 hlt3;have HOWN3:=hide hown3;have hb3:Below w.heap.size w w3:=(HI.out.2.alloc hwl _).grown hgrow3 (by simp;omega) (fun k e=>own_base HI.out.1 e);have HB3:=hide hb3;clear hown3 hgrow3 hat3 hlt3 hb3)
       go_roundg (s.size - (j+1))
       case measure=>omega
       case rel =>
         refine ⟨j+1,by omega,by simp,?_,hide ⟨?_,HB3.out⟩⟩
         · simp [cutFrom,H47.out]
         · simpa [cutOut,H47.out] using HOWN3.out
     · have g:((bt s j:Int) == (c:Int))=false:=by simp only [beq_eq_false_iff_ne];omega
       have H47:=hide h47
       clear h47
       go_wp2_with fail
       go_roundg (s.size - (j+1))
       case measure=>omega
       case rel =>
         refine ⟨j+1,by omega,by simp,?_,hide ⟨?_,HI.out.2⟩⟩
         · simp [cutFrom,H47.out]
         · simpa [cutOut,H47.out] using HI.out.1
   · obtain rfl:j=s.size:=by omega
     have z0:(0:Int)≤(cutFrom s c s.size:Nat):=by omega
     have z1:((cutFrom s c s.size:Nat):Int)≤(s.size:Int):=by omega
     have hm1:(cutOut s c s.size).length+1≤maxLen:=by unfold maxLen;omega
     have hm2:((cutOut s c s.size).length+1) * 16≤140737488355328:=by omega
     have M:=hide (And.intro hm1 hm2)
     clear hm1 hm2 hfj
     go_wp2_with (at_builtin;refine wpList_append_lies _ rfl _ _ _ rfl w.heap.size 9 i0 _ 1 16 Tryz.und_strs hi0 hz0 hz1 hz2 rfl (by omega) _ _ _ (by rfl) (HI.out.1.alloc _) ⟨wr.heap.size,0,none⟩ 1 1 [.string (s.extract (cutFrom s c s.size) s.size)] (by rfl) (by rfl) (news_one _ _ _) (by simp [Value.oneCell']) (by omega) M.out.1 M.out.2 (by simp;omega) (wr.heap.size+1) (by simp) ?_;intro gg cap w3 hown3 hgrow3 hat3 hlt3;have HOWN3:=hide hown3;have hb3:Below w.heap.size w w3:=(HI.out.2.alloc hwl _).grown hgrow3 (by simp;omega) (fun k e=>own_base HI.out.1 e);have HB3:=hide hb3;clear hown3 hgrow3 hat3 hlt3 hb3)
     go_ret
     exact ⟨_,rfl,HB3.out,by simpa [cutL] using HOWN3.out⟩
def strL (l:List UInt8):Value:=.string (mkS l)
def cutP (s:ByteArray) (c:Nat):Nat→List (List UInt8)
 | 0=>[]
 | k+1=>if bt s k=c then cutP s c k++[((bsl s).drop (cutFrom s c k)).take (k - cutFrom s c k)] else cutP s c k
theorem extract_mkS (s:ByteArray) (a b:Nat):s.extract a b=mkS (((bsl s).drop a).take (b - a)):=by
 rw [← mkS_of (s.extract a b)]
 congr 1
 cases s;simp [bsl,ByteArray.extract,ByteArray.copySlice]
theorem cutOut_map (s:ByteArray) (c k:Nat):cutOut s c k=(cutP s c k).map strL:=by
 induction k with
 | zero=>rfl
 | succ k ih =>
   simp only [cutOut,cutP]
   split
   · rw [List.map_append,ih,extract_mkS];rfl
   · exact ih
theorem cutP_join (s:ByteArray) (c:Nat) (hc:c < 256) (k:Nat) (hk:k≤s.size):(cutP s c k).flatMap (fun p=>p++[UInt8.ofNat c])=(bsl s).take (cutFrom s c k):=by
 induction k with
 | zero=>simp [cutP,cutFrom]
 | succ k ih =>
   have ih:=ih (by omega)
   have hl:=bsl_len s
   have hf:=cutFrom_le s c k
   simp only [cutP,cutFrom]
   split
   · rename_i h
     rw [List.flatMap_append,ih]
     have hg:(bsl s)[k]?=some (UInt8.ofNat c):=by
       have hkl:k < (bsl s).length:=by omega
       rw [List.getElem?_eq_getElem hkl]
       rw [bt_ch] at h
       simp only [ch,List.getD_eq_getElem?_getD,List.getElem?_eq_getElem hkl,Option.getD_some] at h
       congr 1
       apply UInt8.toNat.inj
       rw [h];simp [Nat.mod_eq_of_lt hc]
     have e1:(bsl s).take (cutFrom s c k)++((bsl s).drop (cutFrom s c k)).take (k - cutFrom s c k)=(bsl s).take k:=by
       have ht:=List.take_add (l:=bsl s) (i:=cutFrom s c k) (j:=k - cutFrom s c k)
       rw [Nat.add_sub_cancel' hf] at ht
       exact ht.symm
     rw [List.take_add_one,hg,← e1]
     simp
   · exact ih
def parts (s:ByteArray) (c:Nat):List (List UInt8):=cutP s c s.size++[(bsl s).drop (cutFrom s c s.size)]
theorem parts_map (s:ByteArray) (c:Nat):cutL s c=(parts s c).map strL:=by
 unfold cutL parts
 rw [List.map_append,cutOut_map,extract_mkS]
 have hl:=bsl_len s
 rw [List.take_of_length_le (by simp;omega)]
 rfl
theorem parts_join (s:ByteArray) (c:Nat) (hc:c < 256):bsl s=(cutP s c s.size).flatMap (fun p=>p++[UInt8.ofNat c])++(bsl s).drop (cutFrom s c s.size):=by
 rw [cutP_join s c hc s.size (Nat.le_refl _),List.take_append_drop]
theorem parts_one {s:ByteArray} {c:Nat} (hc:c < 256) {a:List UInt8} (h:parts s c=[a]):bsl s=a:=by
 have:=parts_join s c hc
 unfold parts at h
 match hp:cutP s c s.size,h with
 | [],h =>
   rw [hp] at this
   simp at h
   rw [h] at this
   simpa using this
 | [x],h=>simp at h
 | x :: y :: l,h=>simp at h
theorem parts_two {s:ByteArray} {c:Nat} (hc:c < 256) {a b:List UInt8} (h:parts s c=[a,b]):bsl s=a++UInt8.ofNat c :: b:=by
 have:=parts_join s c hc
 unfold parts at h
 match hp:cutP s c s.size,h with
 | [],h=>simp at h
 | [x],h =>
   rw [hp] at this
   simp at h
   rw [h.1,h.2] at this
   simpa using this
 | [x,y],h=>simp at h
 | x :: y :: z :: l,h=>simp at h
theorem parts_three {s:ByteArray} {c:Nat} (hc:c < 256) {a b d:List UInt8} (h:parts s c=[a,b,d]):bsl s=a++UInt8.ofNat c :: (b++UInt8.ofNat c :: d):=by
 have:=parts_join s c hc
 unfold parts at h
 match hp:cutP s c s.size,h with
 | [],h=>simp at h
 | [x],h=>simp at h
 | [x,y],h =>
   rw [hp] at this
   simp at h
   rw [h.1,h.2.1,h.2.2] at this
   simpa using this
 | [x,y,z],h=>simp at h
 | x :: y :: z :: u :: l,h=>simp at h
theorem parts_mem {s:ByteArray} {c:Nat} (hc:c < 256) {x:UInt8} (h:x ∈ bsl s):x=UInt8.ofNat c∨∃ p ∈ parts s c,x ∈ p:=by
 rw [parts_join s c hc] at h
 unfold parts
 rcases List.mem_append.1 h with h | h
 · obtain ⟨p,hp,hx⟩:=List.mem_flatMap.1 h
   rcases List.mem_append.1 hx with hx | hx
   · exact Or.inr ⟨p,List.mem_append.2 (Or.inl hp),hx⟩
   · exact Or.inl (by simpa using hx)
 · exact Or.inr ⟨_,List.mem_append.2 (Or.inr (List.mem_singleton.2 rfl)),h⟩
theorem flat_len (l:List (List UInt8)) (c:UInt8) (n:Nat) (h:∀ p ∈ l,p.length≤n):(l.flatMap (fun p=>p++[c])).length≤l.length * (n+1):=by
 induction l with
 | nil=>simp
 | cons p l ih =>
   have h1:=h p (List.mem_cons_self ..)
   have h2:=ih (fun x hx=>h x (List.mem_cons_of_mem _ hx))
   simp only [List.flatMap_cons,List.length_append,List.length_cons,List.length_nil,Nat.add_mul] at h2 ⊢
   omega
theorem parts_len (s:ByteArray) (c:Nat) (hc:c < 256) (n:Nat) (h:∀ p ∈ parts s c,p.length≤n):s.size+1≤(parts s c).length * (n+1):=by
 have e:=congrArg List.length (parts_join s c hc)
 rw [bsl_len,List.length_append] at e
 have h1:=flat_len (cutP s c s.size) (UInt8.ofNat c) n (fun p hp=>h p (List.mem_append.2 (Or.inl hp)))
 have h2:=h _ (List.mem_append.2 (Or.inr (List.mem_singleton.2 rfl)))
 unfold parts
 simp only [List.length_append,List.length_cons,List.length_nil,Nat.add_mul] at *
 omega
theorem parts_pos (s:ByteArray) (c:Nat):0 < (parts s c).length:=by simp [parts]
theorem parts_head {s:ByteArray} {c:Nat} (hc:c < 256) {a:List UInt8} {l:List (List UInt8)} (h:parts s c=a :: l) (ha:0 < a.length):ch (bsl s) 0=ch a 0:=by
 have:=parts_join s c hc
 unfold parts at h
 match hp:cutP s c s.size,h with
 | [],h =>
   rw [hp] at this
   simp at h
   rw [h.1] at this
   rw [this];simp
 | x :: r,h =>
   rw [hp] at this
   simp at h
   rw [h.1] at this
   rw [this]
   match a,ha with
   | u :: a,_=>simp [ch]
end
section
open Go.RowKit Go.Proofs
def DgL (n:List UInt8):Prop:=0 < n.length∧(∀ c ∈ n,48≤c.toNat∧c.toNat≤57)∧(ch n 0=48→n.length=1)
theorem dg_all {s:ByteArray} (h:∀ i,i < s.size→digB (bt s i)=true):∀ c ∈ bsl s,48≤c.toNat∧c.toNat≤57:=by
 intro c hc
 obtain ⟨i,hi,rfl⟩:=List.getElem_of_mem hc
 have:=h i (by rw [← bsl_len];exact hi)
 rw [bt_ch] at this
 simp only [digB,decide_eq_true_eq,ch,List.getD_eq_getElem?_getD,List.getElem?_eq_getElem hi,Option.getD_some] at this
 exact this
theorem eq_lit {s:ByteArray} {l:List UInt8} (h:(s.toList == l)=true):bsl s=l:=by
 rw [Lib.toList_data] at h
 simpa [bsl] using h
set_option maxHeartbeats 4000000 in
theorem numberS_any (s:ByteArray) (w:World) (hs:s.size≤2147483647):Calls Tryz.prog 44 #[.string s] w (SaysB (DgN (bsl s)) w):=by
 have no:SaysB (DgN (bsl s)) w (.returned (.bool false)) w:=⟨⟨false,rfl,fun h=>by cases h⟩,Below.refl _ _⟩
 have yes:DgN (bsl s)→SaysB (DgN (bsl s)) w (.returned (.bool true)) w:=fun h=>⟨⟨true,rfl,fun _=>h⟩,Below.refl _ _⟩
 have NO:=hide no
 have YES:=hide yes
 clear no yes
 go_enter Tryz.func44,Tryz.ntmps44
 go_wp2_with fail
 go_loopg [3] s.size (fun k v3 wr=>wr=w∧∃ j:Nat,j+k=s.size∧v3=.int .i64 (j:Int)∧Hid (∀ i,i < j→digB (bt s i)=true))
 case atStart=>exact ⟨rfl,0,by omega,rfl,hide (fun i h=>by omega)⟩
 case round =>
   obtain ⟨rfl,j,hj,rfl,HN⟩:=hrel
   rcases Nat.lt_or_ge j s.size with hlt | hge
   · have hget:(s[j]'hlt).toNat=bt s j:=bt_get s j hlt
     have hnext:digB (bt s j)=true→Hid (∀ i,i < j+1→digB (bt s i)=true):=fun h=>hide (fun i hi=>by
       rcases Nat.lt_or_ge i j with h2 | h2
       · exact HN.out i h2
       · obtain rfl:i=j:=by omega
         exact h)
     have HX:=hide hnext
     clear hnext
     rcases hd:digB (bt s j) with _ | _
     · have HD:=hide hd
       clear hd
       go_wp2_with fail
       refine (digit_b (bt s j) false _ HD.out).mono ?_
       rintro e w1 ⟨rfl,rfl⟩
       go_wp2_with fail
       go_ret
       exact NO.out
     · have HD:=hide hd
       clear hd
       go_wp2_with fail
       refine (digit_b (bt s j) true _ HD.out).mono ?_
       rintro e w1 ⟨rfl,rfl⟩
       go_wp2_with fail
       go_roundg (s.size - (j+1))
       case measure=>omega
       case rel=>exact ⟨rfl,j+1,by omega,by simp,HX.out HD.out⟩
   · obtain rfl:j=s.size:=by omega
     have hall:=dg_all HN.out
     have hlen:=bsl_len s
     cases h0:(s.toList == [48]) with
     | true =>
       have HE:=hide (eq_lit h0)
       have HALL:=hide (And.intro hall hlen)
       clear hall hlen
       go_wp2_with fail
       go_ret
       refine YES.out ?_
       have e:=HE.out
       have:=HALL.out.1
       rw [e] at this ⊢
       first | exact ⟨by simp,by simp,this,fun _=>rfl⟩ | exact ⟨by simp,this,fun _=>rfl⟩
     | false =>
       rcases hn:s.size with _ | m
       · have he:=empty_of_size hn
         clear hall hlen
         go_wp2_with fail
         go_ret
         exact NO.out
       · have he:=full_of_size hn
         have hv0:0 < s.size:=by omega
         have hget:(s[0]'hv0).toNat=bt s 0:=bt_get s 0 hv0
         have HNN:=hide hn
         have HALL:=hide (And.intro hall hlen)
         clear hall hlen
         by_cases h48:bt s 0=48
         · have g:((bt s 0:Int) != 48)=false:=by rw [h48];rfl
           clear h48
           go_wp2_with fail
           go_ret
           exact NO.out
         · have g:((bt s 0:Int) != 48)=true:=by simp only [bne_iff_ne,ne_eq];omega
           have H48:=hide h48
           clear h48
           by_cases h9:((m:Int)+1)≤9
           all_goals
             go_wp2_with fail
             go_ret
             first
               | exact NO.out
               | (refine YES.out ?_
                  obtain ⟨h1,h2⟩:=HALL.out
                  have h3:=HNN.out
                  have h4:=H48.out
                  rw [bt_ch] at h4
                  first | exact ⟨by omega,by omega,h1,fun h=>absurd h h4⟩ | exact ⟨by omega,h1,fun h=>absurd h h4⟩)
set_option maxHeartbeats 4000000 in
theorem longS_any (s:ByteArray) (w:World) (hs:s.size≤2147483647):Calls Tryz.prog 32 #[.string s] w (SaysB (DgL (bsl s)) w):=by
 have no:SaysB (DgL (bsl s)) w (.returned (.bool false)) w:=⟨⟨false,rfl,fun h=>by cases h⟩,Below.refl _ _⟩
 have yes:DgL (bsl s)→SaysB (DgL (bsl s)) w (.returned (.bool true)) w:=fun h=>⟨⟨true,rfl,fun _=>h⟩,Below.refl _ _⟩
 have NO:=hide no
 have YES:=hide yes
 clear no yes
 go_enter Tryz.func32,Tryz.ntmps32
 go_wp2_with fail
 go_loopg [3] s.size (fun k v3 wr=>wr=w∧∃ j:Nat,j+k=s.size∧v3=.int .i64 (j:Int)∧Hid (∀ i,i < j→digB (bt s i)=true))
 case atStart=>exact ⟨rfl,0,by omega,rfl,hide (fun i h=>by omega)⟩
 case round =>
   obtain ⟨rfl,j,hj,rfl,HN⟩:=hrel
   rcases Nat.lt_or_ge j s.size with hlt | hge
   · have hget:(s[j]'hlt).toNat=bt s j:=bt_get s j hlt
     have hnext:digB (bt s j)=true→Hid (∀ i,i < j+1→digB (bt s i)=true):=fun h=>hide (fun i hi=>by
       rcases Nat.lt_or_ge i j with h2 | h2
       · exact HN.out i h2
       · obtain rfl:i=j:=by omega
         exact h)
     have HX:=hide hnext
     clear hnext
     rcases hd:digB (bt s j) with _ | _
     · have HD:=hide hd
       clear hd
       go_wp2_with fail
       refine (digit_b (bt s j) false _ HD.out).mono ?_
       rintro e w1 ⟨rfl,rfl⟩
       go_wp2_with fail
       go_ret
       exact NO.out
     · have HD:=hide hd
       clear hd
       go_wp2_with fail
       refine (digit_b (bt s j) true _ HD.out).mono ?_
       rintro e w1 ⟨rfl,rfl⟩
       go_wp2_with fail
       go_roundg (s.size - (j+1))
       case measure=>omega
       case rel=>exact ⟨rfl,j+1,by omega,by simp,HX.out HD.out⟩
   · obtain rfl:j=s.size:=by omega
     have hall:=dg_all HN.out
     have hlen:=bsl_len s
     cases h0:(s.toList == [48]) with
     | true =>
       have HE:=hide (eq_lit h0)
       have HALL:=hide (And.intro hall hlen)
       clear hall hlen
       go_wp2_with fail
       go_ret
       refine YES.out ?_
       have e:=HE.out
       have:=HALL.out.1
       rw [e] at this ⊢
       first | exact ⟨by simp,by simp,this,fun _=>rfl⟩ | exact ⟨by simp,this,fun _=>rfl⟩
     | false =>
       rcases hn:s.size with _ | m
       · have he:=empty_of_size hn
         clear hall hlen
         go_wp2_with fail
         go_ret
         exact NO.out
       · have he:=full_of_size hn
         have hv0:0 < s.size:=by omega
         have hget:(s[0]'hv0).toNat=bt s 0:=bt_get s 0 hv0
         have HNN:=hide hn
         have HALL:=hide (And.intro hall hlen)
         clear hall hlen
         by_cases h48:bt s 0=48
         · have g:((bt s 0:Int) != 48)=false:=by rw [h48];rfl
           clear h48
           go_wp2_with fail
           go_ret
           exact NO.out
         · have g:((bt s 0:Int) != 48)=true:=by simp only [bne_iff_ne,ne_eq];omega
           have H48:=hide h48
           clear h48
           by_cases h9:((m:Int)+1)≤9
           all_goals
             go_wp2_with fail
             go_ret
             first
               | exact NO.out
               | (refine YES.out ?_
                  obtain ⟨h1,h2⟩:=HALL.out
                  have h3:=HNN.out
                  have h4:=H48.out
                  rw [bt_ch] at h4
                  first | exact ⟨by omega,by omega,h1,fun h=>absurd h h4⟩ | exact ⟨by omega,h1,fun h=>absurd h h4⟩)
end
end Go.Proofs.YtifkpibjeamfkaaGreatFmt
