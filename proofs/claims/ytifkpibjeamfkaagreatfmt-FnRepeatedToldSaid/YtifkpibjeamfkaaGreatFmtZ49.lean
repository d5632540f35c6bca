/-
  parseToFile at any document of known lines: an error.
-/
import Derived.Test.YtifkpibjeamfkaaGreatFmtZ48
import Derived.Test.YtifkpibjeamfkaaGreatFmtZ45
import Derived.Test.YtifkpibjeamfkaaGreatFmtZ15
set_option linter.unusedVariables false
set_option linter.unusedSimpArgs false
set_option maxRecDepth 100000
namespace Go.Proofs.YtifkpibjeamfkaaGreatFmt
section
open Go.RowKit Go.Proofs
structure PtI (N M:Nat) (w1 wr:World) (T:List UInt8) (ns:List Nd) (ss:List Stm) (f E F:Nat) (nm:ByteArray) (j:Nat):Prop where
 below:Below M w1 wr
 ex:∃ pre rest m g n c,ss=pre++rest∧TreeS N w1 T (ns.drop j) rest∧Prog (pre.map (Stm.tx T)) m g n∧FSt M wr f E F nm m g n c∧c≤(pre.map lnN).sum
structure PbI (M:Nat) (w1 wr:World) (T:List UInt8) (v:List UInt8) (ls:List (Tk × List Tk)) (f E F:Nat) (nm:ByteArray) (m g:Bool) (n c:Nat) (i:Nat):Prop where
 below:Below M w1 wr
 ex:∃ m' g' n' c',FSt M wr f E F nm m' g' n' c'∧n≤n'∧(m=true→m'=true)∧(g=true→g'=true)∧c'≤c+i∧ProgB v ((ls.take i).map (lnT T)) n'
theorem owns_nilR (w:World) (N:Nat) (e:TypeId) (sz:Nat):w.ownsRow N e sz (.slice none 0 0) 0 []:=⟨by simp,Or.inl ⟨rfl,rfl⟩⟩
theorem fst_new {w1 W:World} {F:Nat} {nm:ByteArray} (hf:Blk W w1.heap.size 89 #[.pointer none,.pointer none,.pointer none,.slice none 0 0,.slice none 0 0,.slice none 0 0,.slice none 0 0,.slice none 0 0,.slice none 0 0,.slice none 0 0,.pointer (some ⟨F,0,none⟩)])
   (hb:Blk W (w1.heap.size+1) 64 #[.pointer (some ⟨w1.heap.size,0,none⟩)]) (hE:Blk W (w1.heap.size+1+1) 121 #[.slice none 0 0]) (hk:Below w1.heap.size w1 W) {cs:Array Value} (hF:Blk w1 F 129 cs) (h0:cs[0]?=some (.string nm)) :
   FSt w1.heap.size W w1.heap.size (w1.heap.size+1+1) F nm false false 0 0:=by
 refine ⟨⟨_,hf,rfl,⟨none,rfl,rfl⟩,⟨none,rfl,rfl⟩,⟨none,rfl⟩,rfl,fun j h1 h2=>?_⟩,⟨_,[],hE,owns_nilR _ _ _ _⟩,⟨cs,hF.kept (Kp.of_below (X:=fun _=>False) hk) (fun h=>h),h0⟩,Nat.le_refl _,by omega,hF.lt,hk.size,Nat.le_refl _,hb⟩
 refine ⟨.slice none 0 0,0,[],?_,owns_nilR _ _ _ _,Nat.le_refl _⟩
 have e1:j=3∨j=4∨j=5∨j=6∨j=7∨j=8∨j=9:=by omega
 rcases e1 with rfl | rfl | rfl | rfl | rfl | rfl | rfl <;> rfl
set_option maxHeartbeats 8000000 in
theorem ptf_any (w:World) (D C:Nat) (T:List UInt8) (nm:ByteArray) (fb fa:Nat→Int) (c:Tk) (cs:List Tk) (ss:List Stm) (b:Bool) (h:TxtAt w D C T) (h0:TokG fb T 0 c) (hch:ChainG fb T c cs) (hfp:FileP (c :: cs) ss b) (hss:ss≠[]∨b=false)
   (hlen:cs.length≤800000) (hT:T.length≤800000) (hpr:PrTab w) (hsp:OpTab w 2 fb) (hP:0 < w.heap.size) (hS:2 < w.heap.size)
   (hsa:OpTab w 4 fa) (hA:4 < w.heap.size) (hfa:∀ c,0≤fa c∧fa c < 256)
   (hcl:∀ s ∈ ss.map (Stm.tx T),ClassS s) (hfin:b=true→∀ m g n,Prog (ss.map (Stm.tx T)) m g n→0 < n) :
   Calls Tryz.prog 46 #[.string nm,.slice (some ⟨D,0,none⟩) T.length C,.nilFunc,.bool true] w
     fun e w'=>(∃ t v,e=.returned (.tuple #[.pointer none,.iface t v]))∧Below w.heap.size w w':=by
 have hmf:∀ (fn:Fn) (first cap:Array Value) (w:World),(Instr.makeFunc fn first cap).run Tryz.prog w=.ok (.func fn first cap) w:=fun _ _ _ _=>rfl
 have hsum:=hfp.lns
 have H:=hide h
 have HP:=hide hpr
 have HSP:=hide hsp
 have HSA:=hide hsa
 have HFA:=hide hfa
 have HCL:=hide hcl
 have HFIN:=hide hfin
 have HTK:=hide (And.intro h0 (And.intro hch (And.intro hfp hss)))
 have HSUM:=hide hsum
 clear h hpr hsp hsa hfa hcl hfin h0 hch hfp hsum hss
 go_enter_defers Tryz.func46,Tryz.ntmps46
 go_wp2_with fail
 have bx:=((Blk.new w 75 #[Value.nilFunc]).alloc (Obj.cells #[Value.pointer none] 64)).alloc (Obj.cells #[Value.nilIface] 66)
 have bp:=(Blk.new' (w.alloc (Obj.cells #[Value.nilFunc] 75)) 64 #[Value.pointer none] (w.heap.size+1) (by simp)).alloc (Obj.cells #[Value.nilIface] 66)
 have be:=Blk.new' ((w.alloc (Obj.cells #[Value.nilFunc] 75)).alloc (Obj.cells #[Value.pointer none] 64)) 66 #[Value.nilIface] (w.heap.size+1+1) (by simp)
 have hb0:Below w.heap.size w (((w.alloc (Obj.cells #[Value.nilFunc] 75)).alloc (Obj.cells #[Value.pointer none] 64)).alloc (Obj.cells #[Value.nilIface] 66)) :=
   (((Below.refl _ w).alloc (Nat.le_refl _) _).alloc (by simp) _).alloc (by simp;omega) _
 generalize ((w.alloc (Obj.cells #[Value.nilFunc] 75)).alloc (Obj.cells #[Value.pointer none] 64)).alloc (Obj.cells #[Value.nilIface] 66)=W at bx bp be hb0 ⊢
 have hprW:PrTab W:=HP.out.below hb0 hP
 go_fit (parse_g W D C T nm fb c cs ss b (H.out.below hb0) HTK.out.1 HTK.out.2.1 HTK.out.2.2.1 HTK.out.2.2.2 hlen hT hprW (HSP.out.below hb0 hS) (Nat.lt_of_lt_of_le hP hb0.size) (Nat.lt_of_lt_of_le hS hb0.size))
 rintro e w1 ⟨hb1,hR⟩
 have kp1:=Kp.of_below (X:=fun _=>False) hb1
 have bx1:=bx.kept kp1 (fun h=>h)
 have bp1:=bp.kept kp1 (fun h=>h)
 have be1:=be.kept kp1 (fun h=>h)
 have ee1:w1.cell? ⟨w.heap.size+1+1,0,none⟩=some .nilIface:=be1.cell 0 rfl
 have fe1:∀ j,w1.frozen? ⟨w.heap.size+1+1,j,none⟩=false:=fun j=>be1.free j
 have ep1:w1.cell? ⟨w.heap.size+1,0,none⟩=some (.pointer none):=bp1.cell 0 rfl
 have fp1:∀ j,w1.frozen? ⟨w.heap.size+1,j,none⟩=false:=fun j=>bp1.free j
 have hb01:=hb0.trans (hb1.mono hb0.size)
 have HB:=hide (And.intro bx1 (And.intro bp1 be1))
 have HB01:=hide hb01
 rcases hR with ⟨rfl,F,ns,rfl,hF,hTr,hnl⟩ | ⟨rfl,v,rfl⟩
 · have se1:w1.setCell ⟨w.heap.size+1+1,0,none⟩ .nilIface=w1:=be1.set_id rfl
   obtain ⟨fv,fcs,hFb,hF0,hF4,hFr⟩:=hF
   have HFB:=hide (And.intro hFb hF0)
   have cS:w1.cell? ⟨F,4,none⟩=some fv:=hFb.cell 4 hF4
   have lF:F < w1.heap.size:=hFb.lt
   have lF1:F < w1.heap.size+1:=by omega
   have lF2:F < w1.heap.size+1+1:=by omega
   have lF3:F < w1.heap.size+1+1+1:=by omega
   have hne:0 < ns.length:=by
     rcases ns with _ | ⟨nd,ns⟩
     · cases hTr
       exact absurd rfl (HTK.out.2.2.2.resolve_right (by simp))
     · simp
   obtain ⟨k0,hk0⟩:∃ k0,ns.length=k0+1:=⟨ns.length - 1,by omega⟩
   rw [List.length_map,hk0] at hFr
   obtain ⟨G,gcap,gcur,rfl,hG,hGN,hg1,hg2,hgc⟩:=row_open hFr
   have HTR:=hide hTr
   have HGB:=hide (And.intro hG (fun (i:Nat) (hi:i < ns.length)=>hgc i (ns[i]).val (by rw [List.getElem?_map,List.getElem?_eq_getElem hi];rfl) (by omega)))
   have HFN:=hide (HFIN.out rfl)
   have HK0:=hide hk0
   clear kp1 bx1 bp1 be1 hb01 hb1 hb0 bx bp be hprW hTr hFr hFb hF0 hF4 hG hgc hne hk0 HFIN
   go_wp2_with fail
   have hW2:∀ Wx,Wx=((w1.alloc (Obj.cells (fileCells (.pointer none) F) 89)).alloc (Obj.cells #[Value.pointer (some ⟨w1.heap.size,0,none⟩)] 64)).alloc (Obj.cells #[Value.slice none 0 0] 121) →
       Below w1.heap.size w1 Wx∧FSt w1.heap.size Wx w1.heap.size (w1.heap.size+1+1) F nm false false 0 0:=by
     rintro Wx rfl
     have hk:Below w1.heap.size w1 (((w1.alloc (Obj.cells (fileCells (.pointer none) F) 89)).alloc (Obj.cells #[Value.pointer (some ⟨w1.heap.size,0,none⟩)] 64)).alloc (Obj.cells #[Value.slice none 0 0] 121)):=(((Below.refl _ w1).alloc (Nat.le_refl _) _).alloc (by simp) _).alloc (by simp;omega) _
     exact ⟨hk,fst_new (((Blk.new w1 _ _).alloc _).alloc _) ((Blk.new' _ _ _ _ (by simp)).alloc _) (Blk.new' _ _ _ _ (by simp)) hk HFB.out.1 HFB.out.2⟩
   have hW3:=hide (hW2 _ rfl)
   clear hW2
   unfold fileCells nilS at hW3
   generalize ((w1.alloc (Obj.cells #[Value.pointer none,Value.pointer none,Value.pointer none,Value.slice none 0 0,Value.slice none 0 0,Value.slice none 0 0,Value.slice none 0 0,Value.slice none 0 0,Value.slice none 0 0,Value.slice none 0 0,Value.pointer (some ⟨F,0,none⟩)] 89)).alloc (Obj.cells #[Value.pointer (some ⟨w1.heap.size,0,none⟩)] 64)).alloc (Obj.cells #[Value.slice none 0 0] 121)=W2 at hW3 ⊢
   clear lF1 lF2 lF3 ee1 fe1 ep1 fp1 cS se1
   have HW0:=hide (show PtI W.heap.size w1.heap.size w1 W2 T ns ss w1.heap.size (w1.heap.size+1+1) F nm 0 from ⟨hW3.out.1,[],ss,false,false,0,0,rfl,HTR.out,Prog.nil,hW3.out.2,Nat.le_refl _⟩)
   go_loopg [37] (k0+1) (fun k v37 wr=>∃ j:Nat,j+k=k0+1∧v37=.int .i64 (j:Int)∧Hid (PtI W.heap.size w1.heap.size w1 wr T ns ss w1.heap.size (w1.heap.size+1+1) F nm j))
   case atStart=>exact ⟨0,by omega,rfl,HW0.out⟩
   case round =>
     obtain ⟨j,hj,rfl,HI⟩:=hrel
     have hPt:=HI.out
     obtain ⟨hbl,pre,rest,m,g,n,c',hss2,htr,hpg,hst,hc'⟩:=hPt
     have hblw:Below w.heap.size w wr:=HB01.out.trans (hbl.mono HB01.out.size)
     have hi0:(0:Int)≤(j:Int):=by omega
     rcases Nat.lt_or_ge j (k0+1) with hlt | hge
     · have hjn:j < ns.length:=by rw [HK0.out];exact hlt
       rw [List.drop_eq_getElem_cons hjn] at htr
       have hgj:wr.cell? ⟨G,j,none⟩=some (ns[j]).val:=(blk_below HGB.out.1 hbl (Nat.le_refl _)).cell j (HGB.out.2 j hjn)
       generalize ns[j]=nd at htr hgj
       have hi1:(j:Int) < (k0:Int)+1:=by omega
       have bx:=HB.out.1.kept (Kp.of_below (X:=fun _=>False) hbl) (fun h=>h)
       cases htr with
       | cb k =>
         have HN:=hide (show PtI W.heap.size w1.heap.size w1 wr T ns ss w1.heap.size (w1.heap.size+1+1) F nm (j+1) from ⟨hbl,pre,rest,m,g,n,c',hss2,k,hpg,hst,hc'⟩)
         clear hbl hss2 k hpg hst hc' hblw bx
         unfold Nd.val cbV at hgj
         go_wp2_with fail
         go_roundg (k0+1 - (j+1))
         case measure=>omega
         case rel=>exact ⟨j+1,by omega,by simp,HN⟩
       | ln hL k =>
         rename_i L t ts rest'
         obtain ⟨R,cap,cur,hO1⟩:=hL.open
         have hO:=hO1.below hbl
         have hcls:LineC (tkTxt T t) (ts.map (tkTxt T)):=HCL.out (Stm.tx T (.line t ts)) (List.mem_map_of_mem (by rw [hss2];simp))
         have hcc:c'≤1000000:=by
           have h1:=HSUM.out
           rw [hss2] at h1
           simp only [List.map_append,List.sum_append,List.length_cons] at h1
           omega
         have hAH:AddH w1.heap.size W.heap.size wr.drew w1.heap.size (w1.heap.size+1+1) F L none nm m g n c' R cur fa :=
           AddH.below (w:=wr) ⟨hst,hO.coms,hO.lb,(fun X e=>by cases e),hO.row,HP.out.below hblw hP,Nat.lt_of_lt_of_le hP HB01.out.size,HSA.out.below hblw hA,Nat.lt_of_lt_of_le hA HB01.out.size,HFA.out,hcc⟩ (Below.refl _ _).drew
         have b11:wr.cell? ⟨w1.heap.size+1,0,none⟩=some (.pointer (some ⟨w1.heap.size,0,none⟩)):=hst.bx.cell 0 rfl
         have l6:=hO.l6
         have r0:wr.cell? ⟨R,0,none⟩=some (.string (mkS (tkTxt T t))):=hO.row.cell 0 (hO.vals 0 t rfl)
         have x0:wr.cell? ⟨w.heap.size,0,none⟩=some .nilFunc:=bx.cell 0 rfl
         have hle:=hO.le
         have hvs:∀ (i:Nat) (u:List UInt8),(ts.map (tkTxt T))[i]?=some u→cur[1+i]?=some (.string (mkS u)):=by
           intro i u hu
           rw [List.getElem?_map] at hu
           obtain ⟨tk,h1,h2⟩:=Option.map_eq_some_iff.1 hu
           have:=hO.vals (i+1) tk (by simpa using h1)
           rw [Nat.add_comm,← h2]
           exact this
         have hPT:∀ w4,Below w1.heap.size wr.drew w4→∀ m' g' n',FSt w1.heap.size w4 w1.heap.size (w1.heap.size+1+1) F nm m' g' n' (c'+1)→n≤n'→(m=true→m'=true)→(g=true→g'=true)→AdX (tkTxt T t) (ts.map (tkTxt T)) m g n m' g' n' →
             PtI W.heap.size w1.heap.size w1 w4 T ns ss w1.heap.size (w1.heap.size+1+1) F nm (j+1):=by
           intro w4 hb4 m' g' n' h1 h2 h3 h4 h5
           refine ⟨hbl.trans ((Below.refl _ _).drew.trans hb4),pre++[.line t ts],_,m',g',n',c'+1,by rw [hss2];simp,k,?_,h1,?_⟩
           · rw [List.map_append]
             exact hpg.line h5 h2 h3 h4
           · rw [List.map_append,List.sum_append]
             simp [lnN]
             exact hc'
         have HO1:=hide hO1
         have HPT:=hide hPT
         have HBL:=hide (hbl.trans (Below.refl _ wr).drew)
         have HBX:=hide bx
         unfold Nd.val lineV at hgj
         by_cases hcap:cap=1
         · subst hcap
           obtain rfl:ts=[]:=by
             rcases ts with _ | ⟨u,ts⟩
             · rfl
             · simp at hle
           simp only [List.length_nil] at l6 hle
           have HM:=hide (show Calls Tryz.prog 52 #[.pointer (some ⟨w1.heap.size,0,none⟩),.pointer (some ⟨w1.heap.size+1+1,0,none⟩),.pointer none,.pointer (some ⟨L,0,none⟩),.string (mkS (tkTxt T t)),.slice (some ⟨R,0,none⟩) 0 0,.nilFunc,.bool true] wr.drew
               (AdR w1.heap.size wr.drew w1.heap.size (w1.heap.size+1+1) F nm m g n c' (AdX (tkTxt T t) (([]:List Tk).map (tkTxt T)) m g n)) from
             add_line w1.heap.size W.heap.size wr.drew w1.heap.size (w1.heap.size+1+1) F L none nm m g n c' R cur fa hAH (tkTxt T t) _ hcls 0 0 0 (some ⟨R,0,none⟩) rfl (fun _=>rfl) (fun i u hu=>by simp at hu) (Nat.le_refl _))
           clear hO hO1 hAH hbl hss2 k hpg hst hc' hblw bx hL hcls hvs hPT hcc
           go_wp2_with fail
           go_region_held3 (fun w'=>w'.cell? ⟨w1.heap.size+1,0,none⟩=some (.pointer (some ⟨w1.heap.size,0,none⟩))∧w'.cell? ⟨L,6,none⟩=some (.slice (some ⟨R,0,none⟩) (0+1) 1)∧w'.cell? ⟨R,0,none⟩=some (.string (mkS (tkTxt T t)))∧w'.cell? ⟨w.heap.size,0,none⟩=some .nilFunc) (go_keep)
             ((go_fit HM.out;rintro e w4 ⟨rfl,hb4,m',g',n',hst4,hn4,hm4,hg4,hx4⟩;have hO4:=HO1.out.below (HBL.out.trans hb4);have b114:w4.cell? ⟨w1.heap.size+1,0,none⟩=some (.pointer (some ⟨w1.heap.size,0,none⟩)):=hst4.bx.cell 0 rfl;have l64:w4.cell? ⟨L,6,none⟩=some (.slice (some ⟨R,0,none⟩) (0+1) 1):=hO4.l6;have r04:w4.cell? ⟨R,0,none⟩=some (.string (mkS (tkTxt T t))):=hO4.row.cell 0 (hO4.vals 0 t rfl);have x04:w4.cell? ⟨w.heap.size,0,none⟩=some .nilFunc:=(HB.out.1.kept (Kp.of_below (X:=fun _=>False) (HBL.out.trans hb4)) (fun h=>h)).cell 0 rfl;have HPT4:=hide (HPT.out w4 hb4 m' g' n' hst4 hn4 hm4 hg4 hx4);clear hO4 hb4 hst4 hn4 hm4 hg4 hx4))
           all_goals go_wp2_with fail
           all_goals go_roundg (k0+1 - (j+1))
           case measure=>omega
           case rel=>exact ⟨j+1,by omega,by simp,HPT4⟩
         · have hcap1:(1:Int) < (cap:Int):=by omega
           have hcap2:1 < cap:=by omega
           have hsl1:(1:Int)≤(ts.length:Int)+1:=by omega
           have hsl2:(ts.length:Int)+1≤(cap:Int):=by omega
           have HM:=hide (show Calls Tryz.prog 52 #[.pointer (some ⟨w1.heap.size,0,none⟩),.pointer (some ⟨w1.heap.size+1+1,0,none⟩),.pointer none,.pointer (some ⟨L,0,none⟩),.string (mkS (tkTxt T t)),.slice (some ⟨R,1,none⟩) ts.length (cap - 1),.nilFunc,.bool true] wr.drew
               (AdR w1.heap.size wr.drew w1.heap.size (w1.heap.size+1+1) F nm m g n c' (AdX (tkTxt T t) (ts.map (tkTxt T)) m g n)) from
             add_line w1.heap.size W.heap.size wr.drew w1.heap.size (w1.heap.size+1+1) F L none nm m g n c' R cur fa hAH (tkTxt T t) _ hcls 1 ts.length (cap - 1) (some ⟨R,1,none⟩) (by simp) (fun _=>rfl) hvs (by omega))
           clear hO hO1 hAH hbl hss2 k hpg hst hc' hblw bx hL hcls hvs hPT hcc
           go_wp2_with fail
           go_region_held3 (fun w'=>w'.cell? ⟨w1.heap.size+1,0,none⟩=some (.pointer (some ⟨w1.heap.size,0,none⟩))∧w'.cell? ⟨L,6,none⟩=some (.slice (some ⟨R,0,none⟩) (ts.length+1) cap)∧w'.cell? ⟨R,0,none⟩=some (.string (mkS (tkTxt T t)))∧w'.cell? ⟨w.heap.size,0,none⟩=some .nilFunc) (go_keep)
             ((go_fit HM.out;rintro e w4 ⟨rfl,hb4,m',g',n',hst4,hn4,hm4,hg4,hx4⟩;have hO4:=HO1.out.below (HBL.out.trans hb4);have b114:w4.cell? ⟨w1.heap.size+1,0,none⟩=some (.pointer (some ⟨w1.heap.size,0,none⟩)):=hst4.bx.cell 0 rfl;have l64:w4.cell? ⟨L,6,none⟩=some (.slice (some ⟨R,0,none⟩) (ts.length+1) cap):=hO4.l6;have r04:w4.cell? ⟨R,0,none⟩=some (.string (mkS (tkTxt T t))):=hO4.row.cell 0 (hO4.vals 0 t rfl);have x04:w4.cell? ⟨w.heap.size,0,none⟩=some .nilFunc:=(HB.out.1.kept (Kp.of_below (X:=fun _=>False) (HBL.out.trans hb4)) (fun h=>h)).cell 0 rfl;have HPT4:=hide (HPT.out w4 hb4 m' g' n' hst4 hn4 hm4 hg4 hx4);clear hO4 hb4 hst4 hn4 hm4 hg4 hx4))
           all_goals go_wp2_with fail
           all_goals go_roundg (k0+1 - (j+1))
           case measure=>omega
           case rel=>exact ⟨j+1,by omega,by simp,HPT4⟩
       | bk hX k =>
         rename_i X Ls t ts ls rest'
         obtain ⟨R,cap,cur,lv,hO1⟩:=hX.open
         have hO:=hO1.below hbl
         have hcls:ClassS (.block (tkTxt T t) (ts.map (tkTxt T)) (ls.map (lnT T))):=HCL.out (Stm.tx T (.block t ts ls)) (List.mem_map_of_mem (by rw [hss2];simp))
         obtain ⟨hts,hbv,hlc⟩:=hcls
         obtain rfl:ts=[]:=by simpa using hts
         have hcc:c'+ls.length≤900000:=by
           have h1:=HSUM.out
           rw [hss2] at h1
           simp only [List.map_append,List.sum_append,List.length_cons,List.map_cons,List.sum_cons,lnN] at h1
           omega
         have hLs:Ls.length=ls.length:=hO1.lns.1
         obtain ⟨la,lc,rfl⟩:=owns_any hO.lrow
         have b11:wr.cell? ⟨w1.heap.size+1,0,none⟩=some (.pointer (some ⟨w1.heap.size,0,none⟩)):=hst.bx.cell 0 rfl
         have l12:wr.cell? ⟨X,12,none⟩=some (.slice (some ⟨R,0,none⟩) 1 cap):=hO.l12
         have l13:=hO.l13
         have r0:wr.cell? ⟨R,0,none⟩=some (.string (mkS (tkTxt T t))):=hO.row.cell 0 (hO.vals 0 t rfl)
         have HO1:=hide hO1
         have HPT:=hide (show ∀ w4,PbI w1.heap.size w1 w4 T (tkTxt T t) ls w1.heap.size (w1.heap.size+1+1) F nm m g n c' Ls.length→PtI W.heap.size w1.heap.size w1 w4 T ns ss w1.heap.size (w1.heap.size+1+1) F nm (j+1) from by
           rintro w4 ⟨hb4,m',g',n',c4,h1,h2,h3,h4,h5,h6⟩
           rw [hLs,List.take_length] at h6
           refine ⟨hb4,pre++[.block t [] ls],_,m',g',n',c4,by rw [hss2];simp,k,?_,h1,?_⟩
           · rw [List.map_append]
             exact hpg.block h6 h2 h3 h4
           · rw [List.map_append,List.sum_append]
             simp [lnN]
             omega)
         have HLC:=hide hlc
         have HLS:=hide hLs
         have HPB:=hide (show PbI w1.heap.size w1 wr T (tkTxt T t) ls w1.heap.size (w1.heap.size+1+1) F nm m g n c' 0 from ⟨hbl,m,g,n,c',hst,Nat.le_refl _,id,id,Nat.le_refl _,fun ⟨_,l,hl,_⟩=>by simp at hl⟩)
         unfold Nd.val lbV at hgj
         obtain ⟨vb,hvb⟩:∃ vb,vb=tkTxt T t:=⟨_,rfl⟩
         have HVB:=hide hvb
         rw [← hvb] at r0 hbv
         have hcapI:(1:Int)≤(cap:Int):=by have:=hO.le;simp at this;omega
         clear hO hO1 hbl hss2 k hpg hst hc' hblw bx hX hlc hLs hts hvb
         obtain ⟨sv,hsv⟩:∃ sv,sv=mkS vb:=⟨_,rfl⟩
         have HSV:=hide hsv
         rw [← hsv] at r0
         rcases hbv with rfl | rfl | rfl | rfl | rfl | rfl
         · skip
           have e0:(sv.toList == [109,111,100,117,108,101])=false:=by rw [hsv,mkS_beq];rfl
           have e1:(sv.toList == [103,111,100,101,98,117,103])=false:=by rw [hsv,mkS_beq];rfl
           have e2:(sv.toList == [114,101,113,117,105,114,101])=true:=by rw [hsv,mkS_beq];rfl
           clear hsv
           go_wp2_with fail
           go_loopg [112] Ls.length (fun k v112 wr=>∃ i:Nat,i+k=Ls.length∧v112=.int .i64 (i:Int)∧Hid (PbI w1.heap.size w1 wr T (tkTxt T t) ls w1.heap.size (w1.heap.size+1+1) F nm m g n c' i))
           case atStart=>exact ⟨0,by omega,rfl,HPB⟩
           case round =>
             obtain ⟨i,hi,rfl,HIb⟩:=hrel
             have hPb:=HIb.out
             obtain ⟨hbl,m2,g2,n2,c2,hst,hn2,hm2,hg2,hc2,hpb⟩:=hPb
             have hblw:Below w.heap.size w wr:=HB01.out.trans (hbl.mono HB01.out.size)
             rcases Nat.lt_or_ge i Ls.length with hil | hil
             · have hO:=HO1.out.below hbl
               have hil2:i < ls.length:=by rw [← HLS.out];exact hil
               have hLn:=HO1.out.lns.2 i Ls[i] ls[i] (List.getElem?_eq_getElem hil) (List.getElem?_eq_getElem hil2)
               obtain ⟨lb,rfl,hcl⟩:=row_at hO.lrow (i:=i) (x:=pv Ls[i]) (by rw [List.getElem?_map,List.getElem?_eq_getElem hil];rfl) hil
               obtain ⟨R2,cap2,cur2,hL1⟩:=hLn.open
               have hL:=hL1.below hbl
               have hlcl:LineC (tkTxt T t) (lnT T ls[i]):=HLC.out _ (List.mem_map_of_mem (List.getElem_mem hil2))
               have hcc2:c2≤1000000:=by have:=HLS.out;omega
               have hvs:∀ (q:Nat) (u:List UInt8),(lnT T ls[i])[q]?=some u→cur2[0+q]?=some (.string (mkS u)):=by
                 intro q u hu
                 have hu':((ls[i].1 :: ls[i].2).map (tkTxt T))[q]?=some u:=hu
                 rw [List.getElem?_map] at hu'
                 obtain ⟨tk,h1,h2⟩:=Option.map_eq_some_iff.1 hu'
                 rw [Nat.zero_add,← h2]
                 exact hL.vals q tk h1
               have hAH:AddH w1.heap.size W.heap.size wr.drew w1.heap.size (w1.heap.size+1+1) F Ls[i] (some X) nm m2 g2 n2 c2 R2 cur2 fa :=
                 AddH.below (w:=wr) ⟨hst,hL.coms,hL.lb,(fun Y e=>by cases e;exact hO.coms),hL.row,HP.out.below hblw hP,Nat.lt_of_lt_of_le hP HB01.out.size,HSA.out.below hblw hA,Nat.lt_of_lt_of_le hA HB01.out.size,HFA.out,hcc2⟩ (Below.refl _ _).drew
               have HM:=hide (show Calls Tryz.prog 52 #[.pointer (some ⟨w1.heap.size,0,none⟩),.pointer (some ⟨w1.heap.size+1+1,0,none⟩),.pointer (some ⟨X,0,none⟩),.pointer (some ⟨Ls[i],0,none⟩),.string sv,.slice (some ⟨R2,0,none⟩) (ls[i].2.length+1) cap2,.nilFunc,.bool true] wr.drew
                   (AdR w1.heap.size wr.drew w1.heap.size (w1.heap.size+1+1) F nm m2 g2 n2 c2 (AdX (tkTxt T t) (lnT T ls[i]) m2 g2 n2)) from by
                 have h:=add_line w1.heap.size W.heap.size wr.drew w1.heap.size (w1.heap.size+1+1) F Ls[i] (some X) nm m2 g2 n2 c2 R2 cur2 fa hAH (tkTxt T t) _ hlcl 0 (ls[i].2.length+1) cap2 (some ⟨R2,0,none⟩) (by simp [lnT]) (fun _=>rfl) hvs hL.le
                 rw [HSV.out,HVB.out]
                 exact h)
               have HNX:=hide (show ∀ w4,Below w1.heap.size wr.drew w4→∀ m' g' n',FSt w1.heap.size w4 w1.heap.size (w1.heap.size+1+1) F nm m' g' n' (c2+1)→n2≤n'→(m2=true→m'=true)→(g2=true→g'=true)→AdX (tkTxt T t) (lnT T ls[i]) m2 g2 n2 m' g' n' →
                   PbI w1.heap.size w1 w4 T (tkTxt T t) ls w1.heap.size (w1.heap.size+1+1) F nm m g n c' (i+1) from by
                 intro w4 hb4 m' g' n' h1 h2 h3 h4 h5
                 refine ⟨hbl.trans ((Below.refl _ _).drew.trans hb4),m',g',n',c2+1,h1,by omega,fun e=>h3 (hm2 e),fun e=>h4 (hg2 e),by omega,?_⟩
                 rw [List.take_add_one,List.getElem?_eq_getElem hil2,List.map_append]
                 exact hpb.line h5 h2)
               have a11:wr.cell? ⟨w1.heap.size+1,0,none⟩=some (.pointer (some ⟨w1.heap.size,0,none⟩)):=hst.bx.cell 0 rfl
               have a12:wr.cell? ⟨X,12,none⟩=some (.slice (some ⟨R,0,none⟩) 1 cap):=hO.l12
               have a0:wr.cell? ⟨R,0,none⟩=some (.string sv):=by rw [HSV.out,HVB.out];exact hO.row.cell 0 (hO.vals 0 t rfl)
               have a6:=hL.l6
               have ax:wr.cell? ⟨w.heap.size,0,none⟩=some .nilFunc:=(HB.out.1.kept (Kp.of_below (X:=fun _=>False) hbl) (fun h=>h)).cell 0 rfl
               have HL1:=hide hL1
               have HBL:=hide (hbl.trans (Below.refl _ wr).drew)
               have i0:(0:Int)≤(i:Int):=by omega
               have i1:(i:Int) < (Ls.length:Int):=by omega
               unfold pv at hcl
               generalize Ls[i]=L at *
               clear hO hLn hL hL1 hlcl hvs hAH hbl hblw hst hpb hm2 hg2 hc2 hn2 hcc2
               go_wp2_with fail
               go_region_held3 (fun w'=>w'.cell? ⟨w1.heap.size+1,0,none⟩=some (.pointer (some ⟨w1.heap.size,0,none⟩))∧w'.cell? ⟨X,12,none⟩=some (.slice (some ⟨R,0,none⟩) 1 cap)∧w'.cell? ⟨R,0,none⟩=some (.string sv)∧w'.cell? ⟨L,6,none⟩=some (.slice (some ⟨R2,0,none⟩) (ls[i].2.length+1) cap2)∧w'.cell? ⟨w.heap.size,0,none⟩=some .nilFunc) (go_keep)
                 ((go_fit HM.out;rintro e w4 ⟨rfl,hb4,m',g',n',hst4,hn4,hm4,hg4,hx4⟩;have hb14:=HBL.out.trans hb4;have hO4:=HO1.out.below hb14;have z11:w4.cell? ⟨w1.heap.size+1,0,none⟩=some (.pointer (some ⟨w1.heap.size,0,none⟩)):=hst4.bx.cell 0 rfl;have z12:w4.cell? ⟨X,12,none⟩=some (.slice (some ⟨R,0,none⟩) 1 cap):=hO4.l12;have z0:w4.cell? ⟨R,0,none⟩=some (.string sv):=(by rw [HSV.out,HVB.out];exact hO4.row.cell 0 (hO4.vals 0 t rfl));have z6:=(HL1.out.below hb14).l6;have zx:w4.cell? ⟨w.heap.size,0,none⟩=some .nilFunc:=(HB.out.1.kept (Kp.of_below (X:=fun _=>False) hb14) (fun h=>h)).cell 0 rfl;have HN4:=hide (HNX.out w4 hb4 m' g' n' hst4 hn4 hm4 hg4 hx4);clear hO4 hb14 hb4 hst4 hn4 hm4 hg4 hx4))
               all_goals go_wp2_with fail
               all_goals go_roundg (Ls.length - (i+1))
               case measure=>omega
               case rel=>exact ⟨i+1,by omega,by simp,HN4⟩
             · obtain rfl:i=Ls.length:=by omega
               have HN4:=hide (HPT.out wr HIb.out)
               clear hbl hblw hst hpb hm2 hg2 hc2 hn2
               go_wp2_with fail
               go_roundg (k0+1 - (j+1))
               case measure=>omega
               case rel=>exact ⟨j+1,by omega,by simp,HN4⟩
         · skip
           have e0:(sv.toList == [109,111,100,117,108,101])=false:=by rw [hsv,mkS_beq];rfl
           have e1:(sv.toList == [103,111,100,101,98,117,103])=false:=by rw [hsv,mkS_beq];rfl
           have e2:(sv.toList == [114,101,113,117,105,114,101])=false:=by rw [hsv,mkS_beq];rfl
           have e3:(sv.toList == [101,120,99,108,117,100,101])=true:=by rw [hsv,mkS_beq];rfl
           clear hsv
           go_wp2_with fail
           go_loopg [112] Ls.length (fun k v112 wr=>∃ i:Nat,i+k=Ls.length∧v112=.int .i64 (i:Int)∧Hid (PbI w1.heap.size w1 wr T (tkTxt T t) ls w1.heap.size (w1.heap.size+1+1) F nm m g n c' i))
           case atStart=>exact ⟨0,by omega,rfl,HPB⟩
           case round =>
             obtain ⟨i,hi,rfl,HIb⟩:=hrel
             have hPb:=HIb.out
             obtain ⟨hbl,m2,g2,n2,c2,hst,hn2,hm2,hg2,hc2,hpb⟩:=hPb
             have hblw:Below w.heap.size w wr:=HB01.out.trans (hbl.mono HB01.out.size)
             rcases Nat.lt_or_ge i Ls.length with hil | hil
             · have hO:=HO1.out.below hbl
               have hil2:i < ls.length:=by rw [← HLS.out];exact hil
               have hLn:=HO1.out.lns.2 i Ls[i] ls[i] (List.getElem?_eq_getElem hil) (List.getElem?_eq_getElem hil2)
               obtain ⟨lb,rfl,hcl⟩:=row_at hO.lrow (i:=i) (x:=pv Ls[i]) (by rw [List.getElem?_map,List.getElem?_eq_getElem hil];rfl) hil
               obtain ⟨R2,cap2,cur2,hL1⟩:=hLn.open
               have hL:=hL1.below hbl
               have hlcl:LineC (tkTxt T t) (lnT T ls[i]):=HLC.out _ (List.mem_map_of_mem (List.getElem_mem hil2))
               have hcc2:c2≤1000000:=by have:=HLS.out;omega
               have hvs:∀ (q:Nat) (u:List UInt8),(lnT T ls[i])[q]?=some u→cur2[0+q]?=some (.string (mkS u)):=by
                 intro q u hu
                 have hu':((ls[i].1 :: ls[i].2).map (tkTxt T))[q]?=some u:=hu
                 rw [List.getElem?_map] at hu'
                 obtain ⟨tk,h1,h2⟩:=Option.map_eq_some_iff.1 hu'
                 rw [Nat.zero_add,← h2]
                 exact hL.vals q tk h1
               have hAH:AddH w1.heap.size W.heap.size wr.drew w1.heap.size (w1.heap.size+1+1) F Ls[i] (some X) nm m2 g2 n2 c2 R2 cur2 fa :=
                 AddH.below (w:=wr) ⟨hst,hL.coms,hL.lb,(fun Y e=>by cases e;exact hO.coms),hL.row,HP.out.below hblw hP,Nat.lt_of_lt_of_le hP HB01.out.size,HSA.out.below hblw hA,Nat.lt_of_lt_of_le hA HB01.out.size,HFA.out,hcc2⟩ (Below.refl _ _).drew
               have HM:=hide (show Calls Tryz.prog 52 #[.pointer (some ⟨w1.heap.size,0,none⟩),.pointer (some ⟨w1.heap.size+1+1,0,none⟩),.pointer (some ⟨X,0,none⟩),.pointer (some ⟨Ls[i],0,none⟩),.string sv,.slice (some ⟨R2,0,none⟩) (ls[i].2.length+1) cap2,.nilFunc,.bool true] wr.drew
                   (AdR w1.heap.size wr.drew w1.heap.size (w1.heap.size+1+1) F nm m2 g2 n2 c2 (AdX (tkTxt T t) (lnT T ls[i]) m2 g2 n2)) from by
                 have h:=add_line w1.heap.size W.heap.size wr.drew w1.heap.size (w1.heap.size+1+1) F Ls[i] (some X) nm m2 g2 n2 c2 R2 cur2 fa hAH (tkTxt T t) _ hlcl 0 (ls[i].2.length+1) cap2 (some ⟨R2,0,none⟩) (by simp [lnT]) (fun _=>rfl) hvs hL.le
                 rw [HSV.out,HVB.out]
                 exact h)
               have HNX:=hide (show ∀ w4,Below w1.heap.size wr.drew w4→∀ m' g' n',FSt w1.heap.size w4 w1.heap.size (w1.heap.size+1+1) F nm m' g' n' (c2+1)→n2≤n'→(m2=true→m'=true)→(g2=true→g'=true)→AdX (tkTxt T t) (lnT T ls[i]) m2 g2 n2 m' g' n' →
                   PbI w1.heap.size w1 w4 T (tkTxt T t) ls w1.heap.size (w1.heap.size+1+1) F nm m g n c' (i+1) from by
                 intro w4 hb4 m' g' n' h1 h2 h3 h4 h5
                 refine ⟨hbl.trans ((Below.refl _ _).drew.trans hb4),m',g',n',c2+1,h1,by omega,fun e=>h3 (hm2 e),fun e=>h4 (hg2 e),by omega,?_⟩
                 rw [List.take_add_one,List.getElem?_eq_getElem hil2,List.map_append]
                 exact hpb.line h5 h2)
               have a11:wr.cell? ⟨w1.heap.size+1,0,none⟩=some (.pointer (some ⟨w1.heap.size,0,none⟩)):=hst.bx.cell 0 rfl
               have a12:wr.cell? ⟨X,12,none⟩=some (.slice (some ⟨R,0,none⟩) 1 cap):=hO.l12
               have a0:wr.cell? ⟨R,0,none⟩=some (.string sv):=by rw [HSV.out,HVB.out];exact hO.row.cell 0 (hO.vals 0 t rfl)
               have a6:=hL.l6
               have ax:wr.cell? ⟨w.heap.size,0,none⟩=some .nilFunc:=(HB.out.1.kept (Kp.of_below (X:=fun _=>False) hbl) (fun h=>h)).cell 0 rfl
               have HL1:=hide hL1
               have HBL:=hide (hbl.trans (Below.refl _ wr).drew)
               have i0:(0:Int)≤(i:Int):=by omega
               have i1:(i:Int) < (Ls.length:Int):=by omega
               unfold pv at hcl
               generalize Ls[i]=L at *
               clear hO hLn hL hL1 hlcl hvs hAH hbl hblw hst hpb hm2 hg2 hc2 hn2 hcc2
               go_wp2_with fail
               go_region_held3 (fun w'=>w'.cell? ⟨w1.heap.size+1,0,none⟩=some (.pointer (some ⟨w1.heap.size,0,none⟩))∧w'.cell? ⟨X,12,none⟩=some (.slice (some ⟨R,0,none⟩) 1 cap)∧w'.cell? ⟨R,0,none⟩=some (.string sv)∧w'.cell? ⟨L,6,none⟩=some (.slice (some ⟨R2,0,none⟩) (ls[i].2.length+1) cap2)∧w'.cell? ⟨w.heap.size,0,none⟩=some .nilFunc) (go_keep)
                 ((go_fit HM.out;rintro e w4 ⟨rfl,hb4,m',g',n',hst4,hn4,hm4,hg4,hx4⟩;have hb14:=HBL.out.trans hb4;have hO4:=HO1.out.below hb14;have z11:w4.cell? ⟨w1.heap.size+1,0,none⟩=some (.pointer (some ⟨w1.heap.size,0,none⟩)):=hst4.bx.cell 0 rfl;have z12:w4.cell? ⟨X,12,none⟩=some (.slice (some ⟨R,0,none⟩) 1 cap):=hO4.l12;have z0:w4.cell? ⟨R,0,none⟩=some (.string sv):=(by rw [HSV.out,HVB.out];exact hO4.row.cell 0 (hO4.vals 0 t rfl));have z6:=(HL1.out.below hb14).l6;have zx:w4.cell? ⟨w.heap.size,0,none⟩=some .nilFunc:=(HB.out.1.kept (Kp.of_below (X:=fun _=>False) hb14) (fun h=>h)).cell 0 rfl;have HN4:=hide (HNX.out w4 hb4 m' g' n' hst4 hn4 hm4 hg4 hx4);clear hO4 hb14 hb4 hst4 hn4 hm4 hg4 hx4))
               all_goals go_wp2_with fail
               all_goals go_roundg (Ls.length - (i+1))
               case measure=>omega
               case rel=>exact ⟨i+1,by omega,by simp,HN4⟩
             · obtain rfl:i=Ls.length:=by omega
               have HN4:=hide (HPT.out wr HIb.out)
               clear hbl hblw hst hpb hm2 hg2 hc2 hn2
               go_wp2_with fail
               go_roundg (k0+1 - (j+1))
               case measure=>omega
               case rel=>exact ⟨j+1,by omega,by simp,HN4⟩
         · skip
           have e0:(sv.toList == [109,111,100,117,108,101])=false:=by rw [hsv,mkS_beq];rfl
           have e1:(sv.toList == [103,111,100,101,98,117,103])=false:=by rw [hsv,mkS_beq];rfl
           have e2:(sv.toList == [114,101,113,117,105,114,101])=false:=by rw [hsv,mkS_beq];rfl
           have e3:(sv.toList == [101,120,99,108,117,100,101])=false:=by rw [hsv,mkS_beq];rfl
           have e4:(sv.toList == [114,101,112,108,97,99,101])=true:=by rw [hsv,mkS_beq];rfl
           clear hsv
           go_wp2_with fail
           go_loopg [112] Ls.length (fun k v112 wr=>∃ i:Nat,i+k=Ls.length∧v112=.int .i64 (i:Int)∧Hid (PbI w1.heap.size w1 wr T (tkTxt T t) ls w1.heap.size (w1.heap.size+1+1) F nm m g n c' i))
           case atStart=>exact ⟨0,by omega,rfl,HPB⟩
           case round =>
             obtain ⟨i,hi,rfl,HIb⟩:=hrel
             have hPb:=HIb.out
             obtain ⟨hbl,m2,g2,n2,c2,hst,hn2,hm2,hg2,hc2,hpb⟩:=hPb
             have hblw:Below w.heap.size w wr:=HB01.out.trans (hbl.mono HB01.out.size)
             rcases Nat.lt_or_ge i Ls.length with hil | hil
             · have hO:=HO1.out.below hbl
               have hil2:i < ls.length:=by rw [← HLS.out];exact hil
               have hLn:=HO1.out.lns.2 i Ls[i] ls[i] (List.getElem?_eq_getElem hil) (List.getElem?_eq_getElem hil2)
               obtain ⟨lb,rfl,hcl⟩:=row_at hO.lrow (i:=i) (x:=pv Ls[i]) (by rw [List.getElem?_map,List.getElem?_eq_getElem hil];rfl) hil
               obtain ⟨R2,cap2,cur2,hL1⟩:=hLn.open
               have hL:=hL1.below hbl
               have hlcl:LineC (tkTxt T t) (lnT T ls[i]):=HLC.out _ (List.mem_map_of_mem (List.getElem_mem hil2))
               have hcc2:c2≤1000000:=by have:=HLS.out;omega
               have hvs:∀ (q:Nat) (u:List UInt8),(lnT T ls[i])[q]?=some u→cur2[0+q]?=some (.string (mkS u)):=by
                 intro q u hu
                 have hu':((ls[i].1 :: ls[i].2).map (tkTxt T))[q]?=some u:=hu
                 rw [List.getElem?_map] at hu'
                 obtain ⟨tk,h1,h2⟩:=Option.map_eq_some_iff.1 hu'
                 rw [Nat.zero_add,← h2]
                 exact hL.vals q tk h1
               have hAH:AddH w1.heap.size W.heap.size wr.drew w1.heap.size (w1.heap.size+1+1) F Ls[i] (some X) nm m2 g2 n2 c2 R2 cur2 fa :=
                 AddH.below (w:=wr) ⟨hst,hL.coms,hL.lb,(fun Y e=>by cases e;exact hO.coms),hL.row,HP.out.below hblw hP,Nat.lt_of_lt_of_le hP HB01.out.size,HSA.out.below hblw hA,Nat.lt_of_lt_of_le hA HB01.out.size,HFA.out,hcc2⟩ (Below.refl _ _).drew
               have HM:=hide (show Calls Tryz.prog 52 #[.pointer (some ⟨w1.heap.size,0,none⟩),.pointer (some ⟨w1.heap.size+1+1,0,none⟩),.pointer (some ⟨X,0,none⟩),.pointer (some ⟨Ls[i],0,none⟩),.string sv,.slice (some ⟨R2,0,none⟩) (ls[i].2.length+1) cap2,.nilFunc,.bool true] wr.drew
                   (AdR w1.heap.size wr.drew w1.heap.size (w1.heap.size+1+1) F nm m2 g2 n2 c2 (AdX (tkTxt T t) (lnT T ls[i]) m2 g2 n2)) from by
                 have h:=add_line w1.heap.size W.heap.size wr.drew w1.heap.size (w1.heap.size+1+1) F Ls[i] (some X) nm m2 g2 n2 c2 R2 cur2 fa hAH (tkTxt T t) _ hlcl 0 (ls[i].2.length+1) cap2 (some ⟨R2,0,none⟩) (by simp [lnT]) (fun _=>rfl) hvs hL.le
                 rw [HSV.out,HVB.out]
                 exact h)
               have HNX:=hide (show ∀ w4,Below w1.heap.size wr.drew w4→∀ m' g' n',FSt w1.heap.size w4 w1.heap.size (w1.heap.size+1+1) F nm m' g' n' (c2+1)→n2≤n'→(m2=true→m'=true)→(g2=true→g'=true)→AdX (tkTxt T t) (lnT T ls[i]) m2 g2 n2 m' g' n' →
                   PbI w1.heap.size w1 w4 T (tkTxt T t) ls w1.heap.size (w1.heap.size+1+1) F nm m g n c' (i+1) from by
                 intro w4 hb4 m' g' n' h1 h2 h3 h4 h5
                 refine ⟨hbl.trans ((Below.refl _ _).drew.trans hb4),m',g',n',c2+1,h1,by omega,fun e=>h3 (hm2 e),fun e=>h4 (hg2 e),by omega,?_⟩
                 rw [List.take_add_one,List.getElem?_eq_getElem hil2,List.map_append]
                 exact hpb.line h5 h2)
               have a11:wr.cell? ⟨w1.heap.size+1,0,none⟩=some (.pointer (some ⟨w1.heap.size,0,none⟩)):=hst.bx.cell 0 rfl
               have a12:wr.cell? ⟨X,12,none⟩=some (.slice (some ⟨R,0,none⟩) 1 cap):=hO.l12
               have a0:wr.cell? ⟨R,0,none⟩=some (.string sv):=by rw [HSV.out,HVB.out];exact hO.row.cell 0 (hO.vals 0 t rfl)
               have a6:=hL.l6
               have ax:wr.cell? ⟨w.heap.size,0,none⟩=some .nilFunc:=(HB.out.1.kept (Kp.of_below (X:=fun _=>False) hbl) (fun h=>h)).cell 0 rfl
               have HL1:=hide hL1
               have HBL:=hide (hbl.trans (Below.refl _ wr).drew)
               have i0:(0:Int)≤(i:Int):=by omega
               have i1:(i:Int) < (Ls.length:Int):=by omega
               unfold pv at hcl
               generalize Ls[i]=L at *
               clear hO hLn hL hL1 hlcl hvs hAH hbl hblw hst hpb hm2 hg2 hc2 hn2 hcc2
               go_wp2_with fail
               go_region_held3 (fun w'=>w'.cell? ⟨w1.heap.size+1,0,none⟩=some (.pointer (some ⟨w1.heap.size,0,none⟩))∧w'.cell? ⟨X,12,none⟩=some (.slice (some ⟨R,0,none⟩) 1 cap)∧w'.cell? ⟨R,0,none⟩=some (.string sv)∧w'.cell? ⟨L,6,none⟩=some (.slice (some ⟨R2,0,none⟩) (ls[i].2.length+1) cap2)∧w'.cell? ⟨w.heap.size,0,none⟩=some .nilFunc) (go_keep)
                 ((go_fit HM.out;rintro e w4 ⟨rfl,hb4,m',g',n',hst4,hn4,hm4,hg4,hx4⟩;have hb14:=HBL.out.trans hb4;have hO4:=HO1.out.below hb14;have z11:w4.cell? ⟨w1.heap.size+1,0,none⟩=some (.pointer (some ⟨w1.heap.size,0,none⟩)):=hst4.bx.cell 0 rfl;have z12:w4.cell? ⟨X,12,none⟩=some (.slice (some ⟨R,0,none⟩) 1 cap):=hO4.l12;have z0:w4.cell? ⟨R,0,none⟩=some (.string sv):=(by rw [HSV.out,HVB.out];exact hO4.row.cell 0 (hO4.vals 0 t rfl));have z6:=(HL1.out.below hb14).l6;have zx:w4.cell? ⟨w.heap.size,0,none⟩=some .nilFunc:=(HB.out.1.kept (Kp.of_below (X:=fun _=>False) hb14) (fun h=>h)).cell 0 rfl;have HN4:=hide (HNX.out w4 hb4 m' g' n' hst4 hn4 hm4 hg4 hx4);clear hO4 hb14 hb4 hst4 hn4 hm4 hg4 hx4))
               all_goals go_wp2_with fail
               all_goals go_roundg (Ls.length - (i+1))
               case measure=>omega
               case rel=>exact ⟨i+1,by omega,by simp,HN4⟩
             · obtain rfl:i=Ls.length:=by omega
               have HN4:=hide (HPT.out wr HIb.out)
               clear hbl hblw hst hpb hm2 hg2 hc2 hn2
               go_wp2_with fail
               go_roundg (k0+1 - (j+1))
               case measure=>omega
               case rel=>exact ⟨j+1,by omega,by simp,HN4⟩
         · skip
           have e0:(sv.toList == [109,111,100,117,108,101])=false:=by rw [hsv,mkS_beq];rfl
           have e1:(sv.toList == [103,111,100,101,98,117,103])=false:=by rw [hsv,mkS_beq];rfl
           have e2:(sv.toList == [114,101,113,117,105,114,101])=false:=by rw [hsv,mkS_beq];rfl
           have e3:(sv.toList == [101,120,99,108,117,100,101])=false:=by rw [hsv,mkS_beq];rfl
           have e4:(sv.toList == [114,101,112,108,97,99,101])=false:=by rw [hsv,mkS_beq];rfl
           have e5:(sv.toList == [114,101,116,114,97,99,116])=true:=by rw [hsv,mkS_beq];rfl
           clear hsv
           go_wp2_with fail
           go_loopg [112] Ls.length (fun k v112 wr=>∃ i:Nat,i+k=Ls.length∧v112=.int .i64 (i:Int)∧Hid (PbI w1.heap.size w1 wr T (tkTxt T t) ls w1.heap.size (w1.heap.size+1+1) F nm m g n c' i))
           case atStart=>exact ⟨0,by omega,rfl,HPB⟩
           case round =>
             obtain ⟨i,hi,rfl,HIb⟩:=hrel
             have hPb:=HIb.out
             obtain ⟨hbl,m2,g2,n2,c2,hst,hn2,hm2,hg2,hc2,hpb⟩:=hPb
             have hblw:Below w.heap.size w wr:=HB01.out.trans (hbl.mono HB01.out.size)
             rcases Nat.lt_or_ge i Ls.length with hil | hil
             · have hO:=HO1.out.below hbl
               have hil2:i < ls.length:=by rw [← HLS.out];exact hil
               have hLn:=HO1.out.lns.2 i Ls[i] ls[i] (List.getElem?_eq_getElem hil) (List.getElem?_eq_getElem hil2)
               obtain ⟨lb,rfl,hcl⟩:=row_at hO.lrow (i:=i) (x:=pv Ls[i]) (by rw [List.getElem?_map,List.getElem?_eq_getElem hil];rfl) hil
               obtain ⟨R2,cap2,cur2,hL1⟩:=hLn.open
               have hL:=hL1.below hbl
               have hlcl:LineC (tkTxt T t) (lnT T ls[i]):=HLC.out _ (List.mem_map_of_mem (List.getElem_mem hil2))
               have hcc2:c2≤1000000:=by have:=HLS.out;omega
               have hvs:∀ (q:Nat) (u:List UInt8),(lnT T ls[i])[q]?=some u→cur2[0+q]?=some (.string (mkS u)):=by
                 intro q u hu
                 have hu':((ls[i].1 :: ls[i].2).map (tkTxt T))[q]?=some u:=hu
                 rw [List.getElem?_map] at hu'
                 obtain ⟨tk,h1,h2⟩:=Option.map_eq_some_iff.1 hu'
                 rw [Nat.zero_add,← h2]
                 exact hL.vals q tk h1
               have hAH:AddH w1.heap.size W.heap.size wr.drew w1.heap.size (w1.heap.size+1+1) F Ls[i] (some X) nm m2 g2 n2 c2 R2 cur2 fa :=
                 AddH.below (w:=wr) ⟨hst,hL.coms,hL.lb,(fun Y e=>by cases e;exact hO.coms),hL.row,HP.out.below hblw hP,Nat.lt_of_lt_of_le hP HB01.out.size,HSA.out.below hblw hA,Nat.lt_of_lt_of_le hA HB01.out.size,HFA.out,hcc2⟩ (Below.refl _ _).drew
               have HM:=hide (show Calls Tryz.prog 52 #[.pointer (some ⟨w1.heap.size,0,none⟩),.pointer (some ⟨w1.heap.size+1+1,0,none⟩),.pointer (some ⟨X,0,none⟩),.pointer (some ⟨Ls[i],0,none⟩),.string sv,.slice (some ⟨R2,0,none⟩) (ls[i].2.length+1) cap2,.nilFunc,.bool true] wr.drew
                   (AdR w1.heap.size wr.drew w1.heap.size (w1.heap.size+1+1) F nm m2 g2 n2 c2 (AdX (tkTxt T t) (lnT T ls[i]) m2 g2 n2)) from by
                 have h:=add_line w1.heap.size W.heap.size wr.drew w1.heap.size (w1.heap.size+1+1) F Ls[i] (some X) nm m2 g2 n2 c2 R2 cur2 fa hAH (tkTxt T t) _ hlcl 0 (ls[i].2.length+1) cap2 (some ⟨R2,0,none⟩) (by simp [lnT]) (fun _=>rfl) hvs hL.le
                 rw [HSV.out,HVB.out]
                 exact h)
               have HNX:=hide (show ∀ w4,Below w1.heap.size wr.drew w4→∀ m' g' n',FSt w1.heap.size w4 w1.heap.size (w1.heap.size+1+1) F nm m' g' n' (c2+1)→n2≤n'→(m2=true→m'=true)→(g2=true→g'=true)→AdX (tkTxt T t) (lnT T ls[i]) m2 g2 n2 m' g' n' →
                   PbI w1.heap.size w1 w4 T (tkTxt T t) ls w1.heap.size (w1.heap.size+1+1) F nm m g n c' (i+1) from by
                 intro w4 hb4 m' g' n' h1 h2 h3 h4 h5
                 refine ⟨hbl.trans ((Below.refl _ _).drew.trans hb4),m',g',n',c2+1,h1,by omega,fun e=>h3 (hm2 e),fun e=>h4 (hg2 e),by omega,?_⟩
                 rw [List.take_add_one,List.getElem?_eq_getElem hil2,List.map_append]
                 exact hpb.line h5 h2)
               have a11:wr.cell? ⟨w1.heap.size+1,0,none⟩=some (.pointer (some ⟨w1.heap.size,0,none⟩)):=hst.bx.cell 0 rfl
               have a12:wr.cell? ⟨X,12,none⟩=some (.slice (some ⟨R,0,none⟩) 1 cap):=hO.l12
               have a0:wr.cell? ⟨R,0,none⟩=some (.string sv):=by rw [HSV.out,HVB.out];exact hO.row.cell 0 (hO.vals 0 t rfl)
               have a6:=hL.l6
               have ax:wr.cell? ⟨w.heap.size,0,none⟩=some .nilFunc:=(HB.out.1.kept (Kp.of_below (X:=fun _=>False) hbl) (fun h=>h)).cell 0 rfl
               have HL1:=hide hL1
               have HBL:=hide (hbl.trans (Below.refl _ wr).drew)
               have i0:(0:Int)≤(i:Int):=by omega
               have i1:(i:Int) < (Ls.length:Int):=by omega
               unfold pv at hcl
               generalize Ls[i]=L at *
               clear hO hLn hL hL1 hlcl hvs hAH hbl hblw hst hpb hm2 hg2 hc2 hn2 hcc2
               go_wp2_with fail
               go_region_held3 (fun w'=>w'.cell? ⟨w1.heap.size+1,0,none⟩=some (.pointer (some ⟨w1.heap.size,0,none⟩))∧w'.cell? ⟨X,12,none⟩=some (.slice (some ⟨R,0,none⟩) 1 cap)∧w'.cell? ⟨R,0,none⟩=some (.string sv)∧w'.cell? ⟨L,6,none⟩=some (.slice (some ⟨R2,0,none⟩) (ls[i].2.length+1) cap2)∧w'.cell? ⟨w.heap.size,0,none⟩=some .nilFunc) (go_keep)
                 ((go_fit HM.out;rintro e w4 ⟨rfl,hb4,m',g',n',hst4,hn4,hm4,hg4,hx4⟩;have hb14:=HBL.out.trans hb4;have hO4:=HO1.out.below hb14;have z11:w4.cell? ⟨w1.heap.size+1,0,none⟩=some (.pointer (some ⟨w1.heap.size,0,none⟩)):=hst4.bx.cell 0 rfl;have z12:w4.cell? ⟨X,12,none⟩=some (.slice (some ⟨R,0,none⟩) 1 cap):=hO4.l12;have z0:w4.cell? ⟨R,0,none⟩=some (.string sv):=(by rw [HSV.out,HVB.out];exact hO4.row.cell 0 (hO4.vals 0 t rfl));have z6:=(HL1.out.below hb14).l6;have zx:w4.cell? ⟨w.heap.size,0,none⟩=some .nilFunc:=(HB.out.1.kept (Kp.of_below (X:=fun _=>False) hb14) (fun h=>h)).cell 0 rfl;have HN4:=hide (HNX.out w4 hb4 m' g' n' hst4 hn4 hm4 hg4 hx4);clear hO4 hb14 hb4 hst4 hn4 hm4 hg4 hx4))
               all_goals go_wp2_with fail
               all_goals go_roundg (Ls.length - (i+1))
               case measure=>omega
               case rel=>exact ⟨i+1,by omega,by simp,HN4⟩
             · obtain rfl:i=Ls.length:=by omega
               have HN4:=hide (HPT.out wr HIb.out)
               clear hbl hblw hst hpb hm2 hg2 hc2 hn2
               go_wp2_with fail
               go_roundg (k0+1 - (j+1))
               case measure=>omega
               case rel=>exact ⟨j+1,by omega,by simp,HN4⟩
         · skip
           have e0:(sv.toList == [109,111,100,117,108,101])=false:=by rw [hsv,mkS_beq];rfl
           have e1:(sv.toList == [103,111,100,101,98,117,103])=false:=by rw [hsv,mkS_beq];rfl
           have e2:(sv.toList == [114,101,113,117,105,114,101])=false:=by rw [hsv,mkS_beq];rfl
           have e3:(sv.toList == [101,120,99,108,117,100,101])=false:=by rw [hsv,mkS_beq];rfl
           have e4:(sv.toList == [114,101,112,108,97,99,101])=false:=by rw [hsv,mkS_beq];rfl
           have e5:(sv.toList == [114,101,116,114,97,99,116])=false:=by rw [hsv,mkS_beq];rfl
           have e6:(sv.toList == [116,111,111,108])=true:=by rw [hsv,mkS_beq];rfl
           clear hsv
           go_wp2_with fail
           go_loopg [112] Ls.length (fun k v112 wr=>∃ i:Nat,i+k=Ls.length∧v112=.int .i64 (i:Int)∧Hid (PbI w1.heap.size w1 wr T (tkTxt T t) ls w1.heap.size (w1.heap.size+1+1) F nm m g n c' i))
           case atStart=>exact ⟨0,by omega,rfl,HPB⟩
           case round =>
             obtain ⟨i,hi,rfl,HIb⟩:=hrel
             have hPb:=HIb.out
             obtain ⟨hbl,m2,g2,n2,c2,hst,hn2,hm2,hg2,hc2,hpb⟩:=hPb
             have hblw:Below w.heap.size w wr:=HB01.out.trans (hbl.mono HB01.out.size)
             rcases Nat.lt_or_ge i Ls.length with hil | hil
             · have hO:=HO1.out.below hbl
               have hil2:i < ls.length:=by rw [← HLS.out];exact hil
               have hLn:=HO1.out.lns.2 i Ls[i] ls[i] (List.getElem?_eq_getElem hil) (List.getElem?_eq_getElem hil2)
               obtain ⟨lb,rfl,hcl⟩:=row_at hO.lrow (i:=i) (x:=pv Ls[i]) (by rw [List.getElem?_map,List.getElem?_eq_getElem hil];rfl) hil
               obtain ⟨R2,cap2,cur2,hL1⟩:=hLn.open
               have hL:=hL1.below hbl
               have hlcl:LineC (tkTxt T t) (lnT T ls[i]):=HLC.out _ (List.mem_map_of_mem (List.getElem_mem hil2))
               have hcc2:c2≤1000000:=by have:=HLS.out;omega
               have hvs:∀ (q:Nat) (u:List UInt8),(lnT T ls[i])[q]?=some u→cur2[0+q]?=some (.string (mkS u)):=by
                 intro q u hu
                 have hu':((ls[i].1 :: ls[i].2).map (tkTxt T))[q]?=some u:=hu
                 rw [List.getElem?_map] at hu'
                 obtain ⟨tk,h1,h2⟩:=Option.map_eq_some_iff.1 hu'
                 rw [Nat.zero_add,← h2]
                 exact hL.vals q tk h1
               have hAH:AddH w1.heap.size W.heap.size wr.drew w1.heap.size (w1.heap.size+1+1) F Ls[i] (some X) nm m2 g2 n2 c2 R2 cur2 fa :=
                 AddH.below (w:=wr) ⟨hst,hL.coms,hL.lb,(fun Y e=>by cases e;exact hO.coms),hL.row,HP.out.below hblw hP,Nat.lt_of_lt_of_le hP HB01.out.size,HSA.out.below hblw hA,Nat.lt_of_lt_of_le hA HB01.out.size,HFA.out,hcc2⟩ (Below.refl _ _).drew
               have HM:=hide (show Calls Tryz.prog 52 #[.pointer (some ⟨w1.heap.size,0,none⟩),.pointer (some ⟨w1.heap.size+1+1,0,none⟩),.pointer (some ⟨X,0,none⟩),.pointer (some ⟨Ls[i],0,none⟩),.string sv,.slice (some ⟨R2,0,none⟩) (ls[i].2.length+1) cap2,.nilFunc,.bool true] wr.drew
                   (AdR w1.heap.size wr.drew w1.heap.size (w1.heap.size+1+1) F nm m2 g2 n2 c2 (AdX (tkTxt T t) (lnT T ls[i]) m2 g2 n2)) from by
                 have h:=add_line w1.heap.size W.heap.size wr.drew w1.heap.size (w1.heap.size+1+1) F Ls[i] (some X) nm m2 g2 n2 c2 R2 cur2 fa hAH (tkTxt T t) _ hlcl 0 (ls[i].2.length+1) cap2 (some ⟨R2,0,none⟩) (by simp [lnT]) (fun _=>rfl) hvs hL.le
                 rw [HSV.out,HVB.out]
                 exact h)
               have HNX:=hide (show ∀ w4,Below w1.heap.size wr.drew w4→∀ m' g' n',FSt w1.heap.size w4 w1.heap.size (w1.heap.size+1+1) F nm m' g' n' (c2+1)→n2≤n'→(m2=true→m'=true)→(g2=true→g'=true)→AdX (tkTxt T t) (lnT T ls[i]) m2 g2 n2 m' g' n' →
                   PbI w1.heap.size w1 w4 T (tkTxt T t) ls w1.heap.size (w1.heap.size+1+1) F nm m g n c' (i+1) from by
                 intro w4 hb4 m' g' n' h1 h2 h3 h4 h5
                 refine ⟨hbl.trans ((Below.refl _ _).drew.trans hb4),m',g',n',c2+1,h1,by omega,fun e=>h3 (hm2 e),fun e=>h4 (hg2 e),by omega,?_⟩
                 rw [List.take_add_one,List.getElem?_eq_getElem hil2,List.map_append]
                 exact hpb.line h5 h2)
               have a11:wr.cell? ⟨w1.heap.size+1,0,none⟩=some (.pointer (some ⟨w1.heap.size,0,none⟩)):=hst.bx.cell 0 rfl
               have a12:wr.cell? ⟨X,12,none⟩=some (.slice (some ⟨R,0,none⟩) 1 cap):=hO.l12
               have a0:wr.cell? ⟨R,0,none⟩=some (.string sv):=by rw [HSV.out,HVB.out];exact hO.row.cell 0 (hO.vals 0 t rfl)
               have a6:=hL.l6
               have ax:wr.cell? ⟨w.heap.size,0,none⟩=some .nilFunc:=(HB.out.1.kept (Kp.of_below (X:=fun _=>False) hbl) (fun h=>h)).cell 0 rfl
               have HL1:=hide hL1
               have HBL:=hide (hbl.trans (Below.refl _ wr).drew)
               have i0:(0:Int)≤(i:Int):=by omega
               have i1:(i:Int) < (Ls.length:Int):=by omega
               unfold pv at hcl
               generalize Ls[i]=L at *
               clear hO hLn hL hL1 hlcl hvs hAH hbl hblw hst hpb hm2 hg2 hc2 hn2 hcc2
               go_wp2_with fail
               go_region_held3 (fun w'=>w'.cell? ⟨w1.heap.size+1,0,none⟩=some (.pointer (some ⟨w1.heap.size,0,none⟩))∧w'.cell? ⟨X,12,none⟩=some (.slice (some ⟨R,0,none⟩) 1 cap)∧w'.cell? ⟨R,0,none⟩=some (.string sv)∧w'.cell? ⟨L,6,none⟩=some (.slice (some ⟨R2,0,none⟩) (ls[i].2.length+1) cap2)∧w'.cell? ⟨w.heap.size,0,none⟩=some .nilFunc) (go_keep)
                 ((go_fit HM.out;rintro e w4 ⟨rfl,hb4,m',g',n',hst4,hn4,hm4,hg4,hx4⟩;have hb14:=HBL.out.trans hb4;have hO4:=HO1.out.below hb14;have z11:w4.cell? ⟨w1.heap.size+1,0,none⟩=some (.pointer (some ⟨w1.heap.size,0,none⟩)):=hst4.bx.cell 0 rfl;have z12:w4.cell? ⟨X,12,none⟩=some (.slice (some ⟨R,0,none⟩) 1 cap):=hO4.l12;have z0:w4.cell? ⟨R,0,none⟩=some (.string sv):=(by rw [HSV.out,HVB.out];exact hO4.row.cell 0 (hO4.vals 0 t rfl));have z6:=(HL1.out.below hb14).l6;have zx:w4.cell? ⟨w.heap.size,0,none⟩=some .nilFunc:=(HB.out.1.kept (Kp.of_below (X:=fun _=>False) hb14) (fun h=>h)).cell 0 rfl;have HN4:=hide (HNX.out w4 hb4 m' g' n' hst4 hn4 hm4 hg4 hx4);clear hO4 hb14 hb4 hst4 hn4 hm4 hg4 hx4))
               all_goals go_wp2_with fail
               all_goals go_roundg (Ls.length - (i+1))
               case measure=>omega
               case rel=>exact ⟨i+1,by omega,by simp,HN4⟩
             · obtain rfl:i=Ls.length:=by omega
               have HN4:=hide (HPT.out wr HIb.out)
               clear hbl hblw hst hpb hm2 hg2 hc2 hn2
               go_wp2_with fail
               go_roundg (k0+1 - (j+1))
               case measure=>omega
               case rel=>exact ⟨j+1,by omega,by simp,HN4⟩
         · skip
           have e0:(sv.toList == [109,111,100,117,108,101])=false:=by rw [hsv,mkS_beq];rfl
           have e1:(sv.toList == [103,111,100,101,98,117,103])=false:=by rw [hsv,mkS_beq];rfl
           have e2:(sv.toList == [114,101,113,117,105,114,101])=false:=by rw [hsv,mkS_beq];rfl
           have e3:(sv.toList == [101,120,99,108,117,100,101])=false:=by rw [hsv,mkS_beq];rfl
           have e4:(sv.toList == [114,101,112,108,97,99,101])=false:=by rw [hsv,mkS_beq];rfl
           have e5:(sv.toList == [114,101,116,114,97,99,116])=false:=by rw [hsv,mkS_beq];rfl
           have e6:(sv.toList == [116,111,111,108])=false:=by rw [hsv,mkS_beq];rfl
           have e7:(sv.toList == [105,103,110,111,114,101])=true:=by rw [hsv,mkS_beq];rfl
           clear hsv
           go_wp2_with fail
           go_loopg [112] Ls.length (fun k v112 wr=>∃ i:Nat,i+k=Ls.length∧v112=.int .i64 (i:Int)∧Hid (PbI w1.heap.size w1 wr T (tkTxt T t) ls w1.heap.size (w1.heap.size+1+1) F nm m g n c' i))
           case atStart=>exact ⟨0,by omega,rfl,HPB⟩
           case round =>
             obtain ⟨i,hi,rfl,HIb⟩:=hrel
             have hPb:=HIb.out
             obtain ⟨hbl,m2,g2,n2,c2,hst,hn2,hm2,hg2,hc2,hpb⟩:=hPb
             have hblw:Below w.heap.size w wr:=HB01.out.trans (hbl.mono HB01.out.size)
             rcases Nat.lt_or_ge i Ls.length with hil | hil
             · have hO:=HO1.out.below hbl
               have hil2:i < ls.length:=by rw [← HLS.out];exact hil
               have hLn:=HO1.out.lns.2 i Ls[i] ls[i] (List.getElem?_eq_getElem hil) (List.getElem?_eq_getElem hil2)
               obtain ⟨lb,rfl,hcl⟩:=row_at hO.lrow (i:=i) (x:=pv Ls[i]) (by rw [List.getElem?_map,List.getElem?_eq_getElem hil];rfl) hil
               obtain ⟨R2,cap2,cur2,hL1⟩:=hLn.open
               have hL:=hL1.below hbl
               have hlcl:LineC (tkTxt T t) (lnT T ls[i]):=HLC.out _ (List.mem_map_of_mem (List.getElem_mem hil2))
               have hcc2:c2≤1000000:=by have:=HLS.out;omega
               have hvs:∀ (q:Nat) (u:List UInt8),(lnT T ls[i])[q]?=some u→cur2[0+q]?=some (.string (mkS u)):=by
                 intro q u hu
                 have hu':((ls[i].1 :: ls[i].2).map (tkTxt T))[q]?=some u:=hu
                 rw [List.getElem?_map] at hu'
                 obtain ⟨tk,h1,h2⟩:=Option.map_eq_some_iff.1 hu'
                 rw [Nat.zero_add,← h2]
                 exact hL.vals q tk h1
               have hAH:AddH w1.heap.size W.heap.size wr.drew w1.heap.size (w1.heap.size+1+1) F Ls[i] (some X) nm m2 g2 n2 c2 R2 cur2 fa :=
                 AddH.below (w:=wr) ⟨hst,hL.coms,hL.lb,(fun Y e=>by cases e;exact hO.coms),hL.row,HP.out.below hblw hP,Nat.lt_of_lt_of_le hP HB01.out.size,HSA.out.below hblw hA,Nat.lt_of_lt_of_le hA HB01.out.size,HFA.out,hcc2⟩ (Below.refl _ _).drew
               have HM:=hide (show Calls Tryz.prog 52 #[.pointer (some ⟨w1.heap.size,0,none⟩),.pointer (some ⟨w1.heap.size+1+1,0,none⟩),.pointer (some ⟨X,0,none⟩),.pointer (some ⟨Ls[i],0,none⟩),.string sv,.slice (some ⟨R2,0,none⟩) (ls[i].2.length+1) cap2,.nilFunc,.bool true] wr.drew
                   (AdR w1.heap.size wr.drew w1.heap.size (w1.heap.size+1+1) F nm m2 g2 n2 c2 (AdX (tkTxt T t) (lnT T ls[i]) m2 g2 n2)) from by
                 have h:=add_line w1.heap.size W.heap.size wr.drew w1.heap.size (w1.heap.size+1+1) F Ls[i] (some X) nm m2 g2 n2 c2 R2 cur2 fa hAH (tkTxt T t) _ hlcl 0 (ls[i].2.length+1) cap2 (some ⟨R2,0,none⟩) (by simp [lnT]) (fun _=>rfl) hvs hL.le
                 rw [HSV.out,HVB.out]
                 exact h)
               have HNX:=hide (show ∀ w4,Below w1.heap.size wr.drew w4→∀ m' g' n',FSt w1.heap.size w4 w1.heap.size (w1.heap.size+1+1) F nm m' g' n' (c2+1)→n2≤n'→(m2=true→m'=true)→(g2=true→g'=true)→AdX (tkTxt T t) (lnT T ls[i]) m2 g2 n2 m' g' n' →
                   PbI w1.heap.size w1 w4 T (tkTxt T t) ls w1.heap.size (w1.heap.size+1+1) F nm m g n c' (i+1) from by
                 intro w4 hb4 m' g' n' h1 h2 h3 h4 h5
                 refine ⟨hbl.trans ((Below.refl _ _).drew.trans hb4),m',g',n',c2+1,h1,by omega,fun e=>h3 (hm2 e),fun e=>h4 (hg2 e),by omega,?_⟩
                 rw [List.take_add_one,List.getElem?_eq_getElem hil2,List.map_append]
                 exact hpb.line h5 h2)
               have a11:wr.cell? ⟨w1.heap.size+1,0,none⟩=some (.pointer (some ⟨w1.heap.size,0,none⟩)):=hst.bx.cell 0 rfl
               have a12:wr.cell? ⟨X,12,none⟩=some (.slice (some ⟨R,0,none⟩) 1 cap):=hO.l12
               have a0:wr.cell? ⟨R,0,none⟩=some (.string sv):=by rw [HSV.out,HVB.out];exact hO.row.cell 0 (hO.vals 0 t rfl)
               have a6:=hL.l6
               have ax:wr.cell? ⟨w.heap.size,0,none⟩=some .nilFunc:=(HB.out.1.kept (Kp.of_below (X:=fun _=>False) hbl) (fun h=>h)).cell 0 rfl
               have HL1:=hide hL1
               have HBL:=hide (hbl.trans (Below.refl _ wr).drew)
               have i0:(0:Int)≤(i:Int):=by omega
               have i1:(i:Int) < (Ls.length:Int):=by omega
               unfold pv at hcl
               generalize Ls[i]=L at *
               clear hO hLn hL hL1 hlcl hvs hAH hbl hblw hst hpb hm2 hg2 hc2 hn2 hcc2
               go_wp2_with fail
               go_region_held3 (fun w'=>w'.cell? ⟨w1.heap.size+1,0,none⟩=some (.pointer (some ⟨w1.heap.size,0,none⟩))∧w'.cell? ⟨X,12,none⟩=some (.slice (some ⟨R,0,none⟩) 1 cap)∧w'.cell? ⟨R,0,none⟩=some (.string sv)∧w'.cell? ⟨L,6,none⟩=some (.slice (some ⟨R2,0,none⟩) (ls[i].2.length+1) cap2)∧w'.cell? ⟨w.heap.size,0,none⟩=some .nilFunc) (go_keep)
                 ((go_fit HM.out;rintro e w4 ⟨rfl,hb4,m',g',n',hst4,hn4,hm4,hg4,hx4⟩;have hb14:=HBL.out.trans hb4;have hO4:=HO1.out.below hb14;have z11:w4.cell? ⟨w1.heap.size+1,0,none⟩=some (.pointer (some ⟨w1.heap.size,0,none⟩)):=hst4.bx.cell 0 rfl;have z12:w4.cell? ⟨X,12,none⟩=some (.slice (some ⟨R,0,none⟩) 1 cap):=hO4.l12;have z0:w4.cell? ⟨R,0,none⟩=some (.string sv):=(by rw [HSV.out,HVB.out];exact hO4.row.cell 0 (hO4.vals 0 t rfl));have z6:=(HL1.out.below hb14).l6;have zx:w4.cell? ⟨w.heap.size,0,none⟩=some .nilFunc:=(HB.out.1.kept (Kp.of_below (X:=fun _=>False) hb14) (fun h=>h)).cell 0 rfl;have HN4:=hide (HNX.out w4 hb4 m' g' n' hst4 hn4 hm4 hg4 hx4);clear hO4 hb14 hb4 hst4 hn4 hm4 hg4 hx4))
               all_goals go_wp2_with fail
               all_goals go_roundg (Ls.length - (i+1))
               case measure=>omega
               case rel=>exact ⟨i+1,by omega,by simp,HN4⟩
             · obtain rfl:i=Ls.length:=by omega
               have HN4:=hide (HPT.out wr HIb.out)
               clear hbl hblw hst hpb hm2 hg2 hc2 hn2
               go_wp2_with fail
               go_roundg (k0+1 - (j+1))
               case measure=>omega
               case rel=>exact ⟨j+1,by omega,by simp,HN4⟩
     · obtain rfl:j=k0+1:=by omega
       rw [List.drop_eq_nil_of_le (by rw [HK0.out];exact Nat.le_refl _)] at htr
       cases htr
       rw [List.append_nil] at hss2
       have hn0:0 < n:=HFN.out m g n (hss2 ▸ hpg)
       obtain ⟨ev,exs,hEb,hEr⟩:=hst.eb
       obtain ⟨ua,uc,rfl⟩:=owns_any hEr
       have bff5:=hst.bx
       have bx5:=HB.out.1.kept (Kp.of_below (X:=fun _=>False) hbl) (fun h=>h)
       have bp5:=HB.out.2.1.kept (Kp.of_below (X:=fun _=>False) hbl) (fun h=>h)
       have be5:=HB.out.2.2.kept (Kp.of_below (X:=fun _=>False) hbl) (fun h=>h)
       have vE5:wr.cell? ⟨w1.heap.size+1+1,0,none⟩=some (.slice ua n uc):=hEb.cell 0 rfl
       have fp5:∀ j,wr.frozen? ⟨w.heap.size+1,j,none⟩=false:=fun j=>bp5.free j
       have fe5:∀ j,wr.frozen? ⟨w.heap.size+1+1,j,none⟩=false:=fun j=>be5.free j
       have ep5:wr.cell? ⟨w.heap.size+1,0,none⟩=some (.pointer none):=bp5.cell 0 rfl
       have ee5:wr.cell? ⟨w.heap.size+1+1,0,none⟩=some .nilIface:=be5.cell 0 rfl
       have sp5:wr.setCell ⟨w.heap.size+1,0,none⟩ (.pointer none)=wr:=bp5.set_id rfl
       have hlt1:w.heap.size+1+1 < w1.heap.size:=HB.out.2.2.lt
       have q1:w.heap.size+1≠w1.heap.size+1+1:=by omega
       have q2:w.heap.size+1+1≠w1.heap.size+1+1:=by omega
       have q3:w1.heap.size≠w.heap.size:=by omega
       have q4:w.heap.size≠w1.heap.size:=by omega
       have q5:w1.heap.size+1≠w.heap.size:=by omega
       have q6:w.heap.size≠w1.heap.size+1:=by omega
       have q1':w1.heap.size+1+1≠w.heap.size+1:=by omega
       have q2':w1.heap.size+1+1≠w.heap.size+1+1:=by omega
       have hn1:(0:Int) < (n:Int):=by omega
       have BFF5:=hide (And.intro bff5 (And.intro hEb (And.intro bx5 (And.intro bp5 (And.intro be5 hblw)))))
       clear bff5 bx5 bp5 be5 hEb hEr hbl hblw hss2 hpg hst hc' hn0
       go_wp2_with fail
       go_region_held3 (fun w'=>w'.cell? ⟨w1.heap.size+1+1,0,none⟩=some (.slice ua n uc)) (go_keep) (fail)
       all_goals go_wp2_with fail
       have hW5:∀ Wx,Wx=(wr.setCell ⟨w.heap.size+1+1,0,none⟩ (.iface 121 (.slice ua n uc))).drew →
           Blk Wx (w.heap.size+1) 64 #[.pointer none]∧Blk Wx (w.heap.size+1+1) 66 #[.iface 121 (.slice ua n uc)]∧Blk Wx (w1.heap.size+1+1) 121 #[Value.slice ua n uc]∧Blk Wx (w1.heap.size+1) 64 #[Value.pointer (some ⟨w1.heap.size,0,none⟩)] ∧
           Blk Wx w.heap.size 75 #[Value.nilFunc]∧Below w.heap.size w Wx:=by
         rintro Wx rfl
         obtain ⟨bff5,bE5,bx5,bp5,be5,hblw⟩:=BFF5.out
         exact ⟨(bp5.set_other (by simp) _).drew,(be5.set 0 _).drew,(bE5.set_other (by simp;omega) _).drew,(bff5.set_other (by simp;omega) _).drew,(bx5.set_other (by simp;omega) _).drew,(hblw.setCell (by simp;omega) _).drew⟩
       have H5:=hide (hW5 _ rfl)
       clear hW5
       generalize (wr.setCell ⟨w.heap.size+1+1,0,none⟩ (.iface 121 (.slice ua n uc))).drew=W5 at H5 ⊢
       refine leaves_cons (f:=50) (args:=#[.pointer (some ⟨w1.heap.size+1+1,0,none⟩),.pointer (some ⟨w1.heap.size+1,0,none⟩),.pointer (some ⟨w.heap.size,0,none⟩),.pointer (some ⟨w.heap.size+1,0,none⟩),.pointer (some ⟨w.heap.size+1+1,0,none⟩)]) (by simp) (by simp [go_sem]) ?_
       refine (ptf_door (w1.heap.size+1+1) (w1.heap.size+1) w.heap.size (w.heap.size+1) (w.heap.size+1+1) w1.heap.size ua n uc W5 (H5.out.2.2.1.cell 0 rfl) (H5.out.2.2.2.1.cell 0 rfl) (H5.out.2.2.2.2.1.cell 0 rfl)).mono ?_
       rintro e u' w6 ⟨rfl,rfl,hb6⟩
       have kp6:=Kp.of_below (X:=fun _=>False) hb6
       have ep6:w6.cell? ⟨w.heap.size+1,0,none⟩=some (.pointer none):=(H5.out.1.kept kp6 (fun h=>h)).cell 0 rfl
       have ee6:w6.cell? ⟨w.heap.size+1+1,0,none⟩=some (.iface 121 (.slice ua n uc)):=(H5.out.2.1.kept kp6 (fun h=>h)).cell 0 rfl
       simp [Leaves,settle,results,Tryz.results46,go_sem,ep6,ee6]
       exact H5.out.2.2.2.2.2.trans (hb6.mono H5.out.2.2.2.2.2.size)
 · clear kp1 bx1 bp1 be1 hb01 hb1 hb0 bx bp be hprW
   go_wp2_with fail
   have hW5:∀ Wx,Wx=w1.setCell ⟨w.heap.size+1+1,0,none⟩ (.iface 121 v) →
       Blk Wx (w.heap.size+1) 64 #[.pointer none]∧Blk Wx (w.heap.size+1+1) 66 #[.iface 121 v]∧Below w.heap.size w Wx:=by
     rintro Wx rfl
     exact ⟨HB.out.2.1.set_other (by simp) _,HB.out.2.2.set 0 _,HB01.out.setCell (by simp;omega) _⟩
   have H5:=hide (hW5 _ rfl)
   clear hW5 ee1 fe1 ep1 fp1
   generalize w1.setCell ⟨w.heap.size+1+1,0,none⟩ (.iface 121 v)=W5 at H5 ⊢
   have ep5:W5.cell? ⟨w.heap.size+1,0,none⟩=some (.pointer none):=H5.out.1.cell 0 rfl
   have ee5:W5.cell? ⟨w.heap.size+1+1,0,none⟩=some (.iface 121 v):=H5.out.2.1.cell 0 rfl
   have fp5:∀ j,W5.frozen? ⟨w.heap.size+1,j,none⟩=false:=fun j=>H5.out.1.free j
   have fe5:∀ j,W5.frozen? ⟨w.heap.size+1+1,j,none⟩=false:=fun j=>H5.out.2.1.free j
   have sp5:W5.setCell ⟨w.heap.size+1,0,none⟩ (.pointer none)=W5:=H5.out.1.set_id rfl
   have se5:W5.setCell ⟨w.heap.size+1+1,0,none⟩ (.iface 121 v)=W5:=H5.out.2.1.set_id rfl
   go_region_held3 (fun w'=>w'.cell? ⟨w.heap.size+1+1,0,none⟩=some (.iface 121 v)) (go_keep) (fail)
   all_goals go_wp2_with fail
   have ep6:W5.drew.cell? ⟨w.heap.size+1,0,none⟩=some (.pointer none):=H5.out.1.drew.cell 0 rfl
   have ee6:W5.drew.cell? ⟨w.heap.size+1+1,0,none⟩=some (.iface 121 v):=H5.out.2.1.drew.cell 0 rfl
   simp [bodyPostD,Leaves,results,Tryz.results46,go_sem,ep6,ee6]
   exact H5.out.2.2.drew
end
end Go.Proofs.YtifkpibjeamfkaaGreatFmt
