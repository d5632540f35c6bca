/-
  (*input).parseFile.
-/
import Derived.Test.YtifkpibjeamfkaaGreatFmtZ22
import Derived.Test.YtifkpibjeamfkaaGreatFmtZ21
set_option linter.unusedVariables false
set_option linter.unusedSimpArgs false
set_option maxRecDepth 100000
namespace Go.Proofs.YtifkpibjeamfkaaGreatFmt
section
open Go.RowKit Go.Proofs
@[local go_sem] theorem mc_line (L:Nat) (w:World):Sem.run Tryz.prog (method 420 92 (.pointer (some ⟨L,0,none⟩)) "Comment") w=.ok (96,.pointer (some ⟨L,0,none⟩)) w:=by kernel_rfl
@[local go_sem] theorem mc_block (L:Nat) (w:World):Sem.run Tryz.prog (method 420 137 (.pointer (some ⟨L,0,none⟩)) "Comment") w=.ok (96,.pointer (some ⟨L,0,none⟩)) w:=by kernel_rfl
theorem PsAt.setFile {N:Nat} {w:World} {σ:Lx} {t:Tk} {P:Nat→Prop} (h:PsAt N w σ t P) (v:Value):PsAt N (w.setCell ⟨σ.B,16,none⟩ v) { σ with file:=v } t P:=by
 obtain ⟨com,cs,⟨q,ts,hs,hx⟩,h2,h3,h4,h5⟩:=h
 have hb:=hx.blk
 have k:Ku N (fun i u=>u=155∧i=σ.B) w (w.setCell ⟨σ.B,16,none⟩ v)→True:=fun _=>trivial
 refine ⟨com,cs,⟨q,ts,hs,⟨(hb.set 16 v).eq (by simp [Lx.cells,Lx.lexed]),fun j hj=>?_,hx.ascii,hx.hp,hx.hn,hx.hC,hx.hT,hx.hq,?_⟩⟩,⟨?_,h2.2⟩,h3,h4,h5⟩
 · have:=hx.txt j hj
   rw [World.cell?_setCell_far _ _ _ _ (by intro e;exact hx.ne e.symm)]
   exact this
 · obtain ⟨ds,fz,e⟩:=hx.dat
   exact ⟨ds,fz,(Below.heap_setCell _ _ _ _ hx.ne).trans e⟩
 · refine ownsRow_setCell_other h2.1 (fun e=>?_) v
   exact h2.blockNe hb (by decide) e
theorem ex_append1 {N:Nat} {w2 w3:World} {v:Value} {n:Nat} {xs:List Value} {o:Obj} {e:TypeId} {sz:Nat} (hown:w2.ownsRow N e sz v n xs) (hN:N≤w2.heap.size) (hg:(w2.drew.alloc o).grownBy w3 v.ownBlock):Ku N (fun _ u=>u=e) w2 w3:=by
 have k0:Ku N (fun _ u=>u=e) w2 (w2.drew.alloc o):=((Ku.refl _ _ _).drew).alloc hN _
 exact k0.trans (Ku.of_append (hown.drew.alloc o) hg (by simp;omega) (fun _ _=>rfl))
theorem com_append1 {N:Nat} {w2 w3:World} {v:Value} {cs:List Cmt} {o:Obj} (h:CmAt N w2 v cs) (hN:N≤w2.heap.size) (hg:(w2.drew.alloc o).grownBy w3 v.ownBlock):Ku N (fun i u=>u=194∧v.ownBlock=some i) w2 w3:=by
 have k0:Ku N (fun i u=>u=194∧v.ownBlock=some i) w2 (w2.drew.alloc o):=((Ku.refl _ _ _).drew).alloc hN _
 exact k0.trans (Ku.of_append (h.1.drew.alloc o) hg (by simp;omega) (fun _ e=>⟨rfl,e⟩))
theorem Body.shorter {l:List Tk} {ls:List (Tk × List Tk)} {r:Option (List Tk)} (h:Body l ls r):∀ cs,r=some cs→cs.length < l.length:=by
 induction h with
 | skip c cs ls r h hb ih=>intro ds e;have:=ih ds e;simp;omega
 | eof c h=>intro ds e;cases e
 | close c e t cs h he=>intro ds e';cases e';simp
 | line c pre e cs ls r h h5 h41 hp he hb ih=>intro ds e';have:=ih ds e';simp;omega
def PFG (N:Nat) (σ:Lx) (w:World) (P:Nat→Prop) (f:Nat→Int) (F:Nat) (ss:List Stm) (b:Bool) (k:Nat) (v2:Value) (wr:World):Prop :=
 ∃ Q c cs v cms ns s1 s2 p,TokG f σ.T p c∧PFI N σ w P F Q c v2 v cms ns s1 wr∧(∀ g,v.ownBlock=some g→¬ Q g)∧FileP (c :: cs) s2 b∧ChainG f σ.T c cs∧ss=s1++s2∧cs.length+1=k∧cms.length+k≤900002∧ns.length+k≤900002
def PfOk (N:Nat) (σ:Lx) (w:World) (P:Nat→Prop) (ss:List Stm) (en:Ending) (w':World):Prop :=
 ∃ F Q c ns,en=.returned (.tuple #[])∧w.heap.size≤F∧PsAt N w' { σ with file:=.pointer (some ⟨F,0,none⟩) } c Q∧(∀ k,P k→Q k)∧(∀ k,Q k→k < w'.heap.size)∧FileAt N w' F ⟨#[]⟩ (ns.map Nd.val)∧TreeAt N w' σ.T Q ns ss ∧
   (idsOf ns).Nodup∧(∀ k ∈ idsOf ns,w.heap.size≤k)∧Ku N (StmtP P) w w'∧ns.length≤900002
def PfPost (N:Nat) (σ:Lx) (w:World) (P:Nat→Prop) (ss:List Stm) (b:Bool) (en:Ending) (w':World):Prop :=
 (b=true∧PfOk N σ w P ss en w')∨(b=false∧Panics N σ w (StmtP P) en w')
set_option maxHeartbeats 8000000 in
theorem parseFile_g (N:Nat) (σ:Lx) (w:World) (P:Nat→Prop) (f:Nat→Int) (c:Tk) (cs:List Tk) (ss:List Stm) (b:Bool) (fnm:ByteArray) (p0:Nat) (h:PsAt N w σ c P) (hP:∀ k,P k→k < w.heap.size) (hT:Tabs N w σ f) (htk:TokG f σ.T p0 c)
   (hfp:FileP (c :: cs) ss b) (hch:ChainG f σ.T c cs) (hlen:cs.length≤900000) (hpe:σ.perr=nilS) (hfn:σ.fn=.string fnm) :
   Calls Tryz.prog 60 #[.pointer (some ⟨σ.B,0,none⟩)] w (PfPost N σ w P ss b):=by
 obtain ⟨i0,hi0,hi1⟩:=Option.map_eq_some_iff.1 Tryz.infoCom
 simp only [Prod.mk.injEq] at hi1
 obtain ⟨z0,hz0,hz1⟩:=Option.map_eq_some_iff.1 hi1.1
 have hz2:=hi1.2.1
 have hz3:=hi1.2.2
 clear hi1
 obtain ⟨i1,hi1,hy0,hy1,hy2⟩:=info_parts Tryz.infoExpr
 have hBw:=h.lt
 have hNw:N≤w.heap.size:=by have:=hT.hN;omega
 have hne:w.heap.size≠σ.B:=by omega
 obtain ⟨ics,hib,hi16,_,_⟩:=h.blk
 have h16:w.cell? ⟨σ.B,16,none⟩=some σ.file:=hib.cell 16 hi16
 have hfr:w.frozen? ⟨σ.B,16,none⟩=false:=hib.free 16
 have H:=hide h
 have HP:=hide hP
 have HT:=hide hT
 have HFP:=hide hfp
 have HC:=hide hch
 have HTK:=hide htk
 have HPE:=hide hpe
 have HFN:=hide hfn
 have HIB:=hide hib
 clear h hP hT hfp hch htk hpe hfn hib hi16
 go_enter Tryz.func60,Tryz.ntmps60
 go_wp2_with fail
 have hsz:(w.setCell ⟨σ.B,16,none⟩ (.pointer (some ⟨w.heap.size,0,none⟩))).heap.size=w.heap.size:=by simp
 have kw:Ku N (LexP P) w ((w.setCell ⟨σ.B,16,none⟩ (.pointer (some ⟨w.heap.size,0,none⟩))).alloc (Obj.cells #[Value.string ⟨#[]⟩,nilS,nilS,nilS,nilS] 129)):=by
   refine Ku.alloc ?_ hNw _
   refine Ku.set_blk (Ku.refl _ _ _) HT.out.hN HIB.out (Or.inl rfl)
 have hF0:=Blk.new (w.setCell ⟨σ.B,16,none⟩ (.pointer (some ⟨w.heap.size,0,none⟩))) 129 #[Value.string ⟨#[]⟩,nilS,nilS,nilS,nilS]
 rw [hsz] at hF0
 have hps:PsAt N ((w.setCell ⟨σ.B,16,none⟩ (.pointer (some ⟨w.heap.size,0,none⟩))).alloc (Obj.cells #[Value.string ⟨#[]⟩,nilS,nilS,nilS,nilS] 129)) { σ with file:=.pointer (some ⟨w.heap.size,0,none⟩) } c P :=
   (H.out.setFile _).keptU ((Ku.refl N (fun _ _=>False) _).alloc (by rw [hsz];exact hNw) _) id id (fun _ x=>x.elim)
 have INV:Hid (PFG N { σ with file:=.pointer (some ⟨w.heap.size,0,none⟩) } w P f w.heap.size ss b (cs.length+1) (.pointer none) ((w.setCell ⟨σ.B,16,none⟩ (.pointer (some ⟨w.heap.size,0,none⟩))).alloc (Obj.cells #[Value.string ⟨#[]⟩,nilS,nilS,nilS,nilS] 129))):=by
   refine hide ⟨P,c,cs,nilS,[],[],[],ss,p0,HTK.out,⟨hps.mono (fun k e=>e.elim id (fun e=>by simp [nilS,Value.ownBlock] at e)),fun _ x=>x,fun k hk=>Nat.lt_of_lt_of_le (HP.out k hk) kw.size,CmAt.nil _ _,Or.inl ⟨rfl,rfl⟩,⟨nilS,hF0,rfl,Or.inl ⟨rfl,rfl⟩⟩,.nil,by simp [idsOf],by simp [idsOf],kw.mono (fun _ _ x=>Or.inl x),Nat.le_refl _⟩,fun g e=>by simp [nilS,Value.ownBlock] at e,HFP.out,HC.out,rfl,rfl,by simp;omega,by simp;omega⟩
 change Code.wp _ _ _ _ ((w.setCell ⟨σ.B,16,none⟩ (.pointer (some ⟨w.heap.size,0,none⟩))).alloc (Obj.cells #[Value.string ⟨#[]⟩,nilS,nilS,nilS,nilS] 129))
 generalize ((w.setCell ⟨σ.B,16,none⟩ (.pointer (some ⟨w.heap.size,0,none⟩))).alloc (Obj.cells #[Value.string ⟨#[]⟩,nilS,nilS,nilS,nilS] 129))=W at INV ⊢
 clear hps kw hF0 hsz hne h16 hfr HIB
 generalize hF:w.heap.size=F at INV ⊢
 have HFe:=hide hF
 clear hF
 have HTw:∀ {wr:World},Ku N (StmtP P) w wr→Tabs N wr { σ with file:=.pointer (some ⟨F,0,none⟩) } f:=fun {wr} k=>⟨(HT.out.below k.below).pr,(HT.out.below k.below).sp,HT.out.hp,HT.out.hs,HT.out.hN,HT.out.hT⟩
 have HTW:Hid (∀ (wr:World),Ku N (StmtP P) w wr→Tabs N wr { σ with file:=.pointer (some ⟨F,0,none⟩) } f):=hide (fun wr k=>HTw k)
 clear HTw
 go_loopg [2] (cs.length+1) (fun k v2 wr=>Hid (PFG N { σ with file:=.pointer (some ⟨F,0,none⟩) } w P f F ss b k v2 wr))
 case atStart=>exact INV
 case round =>
   obtain ⟨Q,c,cs,v,cms,ns,s1,s2,p,htk,hI,hout,hfp,hch,hss,hk,hcl,hnl⟩:=hrel.out
   clear hrel INV
   have hkd:wr.cell? ⟨σ.B,4,none⟩=some (.int .i64 c.k):=hI.ps.kind
   have HI:=hide hI
   have HO:=hide hout
   have HCH:=hide hch
   have HSS:=hide hss
   have HTK:=hide htk
   clear hI hout hch hss htk
   have hNr:N≤wr.heap.size:=by have:=HI.out.ku.size;omega
   have hTr:=hide (HTW.out _ HI.out.ku)
   have hLt:=hide HI.out.ltAll
   cases hfp with
   | eof _ h1 =>
     have hck:c.k=-1:=h1
     rw [hck] at hkd
     have hs2:ss=s1:=by have:=HSS.out;rwa [List.append_nil] at this
     have HS2:=hide hs2
     clear hck h1 hs2
     rcases HI.out.cb with ⟨e2,e3⟩ | ⟨C,e2,e3⟩
     · subst e2
       go_wp2_with fail
       refine (peek_any σ.B (-1) _ hkd).mono ?_
       rintro e w1 ⟨rfl,rfl⟩
       go_wp2_with fail
       go_returns
       exact Or.inl ⟨rfl,F,_,c,ns,rfl,by rw [HFe.out];exact Nat.le_refl _,HI.out.ps.mono (fun k e=>Or.inl e),HI.out.sub,HI.out.lt,HI.out.file,by rw [HS2.out];exact HI.out.tree,HI.out.nd,HI.out.old,HI.out.ku,by omega⟩
     · subst e2
       clear e3
       go_wp2_with fail
       refine (peek_any σ.B (-1) _ hkd).mono ?_
       rintro e w1 ⟨rfl,rfl⟩
       go_wp2_with fail
       have hN2:N≤wr.heap.size:=by have:=HI.out.ku.size;omega
       obtain ⟨fv,hfb,hfo⟩:=HI.out.file
       rw [List.length_map] at hfo
       obtain ⟨csB,hBB,hB16,_,_⟩:=HI.out.ps.blk
       have q16:wr.cell? ⟨σ.B,16,none⟩=some (.pointer (some ⟨F,0,none⟩)):=hBB.cell 16 hB16
       have q4:wr.cell? ⟨F,4,none⟩=some fv:=hfb.cell 4 rfl
       have n1:=World.new_ne wr _ q16
       have n2:=World.new_ne wr _ q4
       have mBF:F≠σ.B:=hfb.ne hBB (by decide)
       simp only at n1 n2
       have n1':=n1.symm
       have n2':=n2.symm
       have ff:∀ j,wr.frozen? ⟨F,j,none⟩=false:=fun j=>hfb.free j
       have lF:=hfb.lt
       have hm1:ns.length+1≤maxLen:=by unfold maxLen;omega
       have hm2:(ns.length+1) * 16≤140737488355328:=by omega
       have HFb:=hide hfb
       have HFo:=hide hfo
       have HBB:=hide hBB
       have MM:=hide (And.intro hm1 hm2)
       clear hfb hfo hBB hm1 hm2
       change Code.wp _ (Code.region _ #[_,_,_,_,_,_,_,_,_,_,id _,_,_,_,_,_,_,_] _) _ _ _
       go_region_held3 (fun w'=>w'.cell? ⟨σ.B,16,none⟩=some (.pointer (some ⟨F,0,none⟩))) (go_keep)
         ((refine step_append_lies _ (by rfl) _ _ _ (by rfl) N 131 i1 _ 1 16 Tryz.und_exprs hi1 hy0 hy1 hy2 rfl (by omega) fv ns.length (ns.map Nd.val) (by rfl) (by repeat (first | exact HFo.out | apply World.ownsRow.alloc | apply World.ownsRow.drew)) ⟨wr.heap.size,0,none⟩ 1 1 [cbV C] (by rfl) (by rfl) (news_one _ _ _) (by simp [Value.oneCell',cbV]) (by omega) MM.out.1 MM.out.2 (by simp;omega) (wr.heap.size+1) (by simp) ?_;intro gg cap w3 hown3 hgrow3 hat3 hlt3;have k3:=ex_append1 HFo.out hN2 hgrow3;have r16:w3.cell? ⟨σ.B,16,none⟩=some (.pointer (some ⟨F,0,none⟩)):=(HBB.out.keptU k3 (by decide)).cell 16 hB16;have rF:=HFb.out.keptU k3 (by decide);have r4:w3.cell? ⟨F,4,none⟩=some fv:=rF.cell 4 rfl;have rfr:∀ j,w3.frozen? ⟨F,j,none⟩=false:=fun j=>rF.free j;have HI4:=hide (HI.out.flush rfl hN2 hNw k3 rfl hown3 rfl);clear hown3 hgrow3 hat3 hlt3 k3 rF))
       all_goals go_wp2_with fail
       all_goals go_returns
       all_goals
         exact Or.inl ⟨rfl,F,_,c,ns++[.cb C],rfl,by rw [HFe.out];exact Nat.le_refl _,HI4.out.ps.mono (fun k e=>Or.inl e),HI4.out.sub,HI4.out.lt,HI4.out.file,by rw [HS2.out];exact HI4.out.tree,HI4.out.nd,HI4.out.old,HI4.out.ku,by simp;omega⟩
   | skip _ _ _ _ hsk r =>
     obtain ⟨d,ds,rfl⟩:=r.ne
     have HR:=hide r
     have HTD:=hide HCH.out.1
     clear r
     rcases hsk with hk2 | hk2
     · rw [hk2] at hkd
       have HK2:=hide hk2
       clear hk2
       go_wp2_with fail
       refine (peek_any σ.B 10 _ hkd).mono ?_
       rintro e w1 ⟨rfl,rfl⟩
       go_wp2_with fail
       refine (lex_g N { σ with file:=.pointer (some ⟨F,0,none⟩) } wr c d _ f HI.out.ps hLt.out hTr.out HTD.out).mono ?_
       rintro e w2 ⟨rfl,hat2,hk2⟩
       have HI2:=hide (HI.out.lexed hk2 hat2)
       clear hat2 hk2
       unfold Tk.valG
       rcases HI2.out.cb with ⟨e2,e3⟩ | ⟨C,e2,e3⟩
       · subst e2
         go_wp2_with fail
         go_roundg (gk - 1)
         case measure=>omega
         case rel=>exact hide ⟨Q,d,ds,_,cms,ns,s1,_,_,HTD.out,HI2.out,HO.out,HR.out,HCH.out.2,HSS.out,by simp at hk;omega,by omega,by omega⟩
       · subst e2
         clear e3
         go_wp2_with fail
         have hN2:N≤w2.heap.size:=by have:=HI2.out.ku.size;omega
         obtain ⟨fv,hfb,hfo⟩:=HI2.out.file
         rw [List.length_map] at hfo
         obtain ⟨csB,hBB,hB16,_,_⟩:=HI2.out.ps.blk
         have q16:w2.cell? ⟨σ.B,16,none⟩=some (.pointer (some ⟨F,0,none⟩)):=hBB.cell 16 hB16
         have q4:w2.cell? ⟨F,4,none⟩=some fv:=hfb.cell 4 rfl
         have n1:=World.new_ne w2 _ q16
         have n2:=World.new_ne w2 _ q4
         have mBF:F≠σ.B:=hfb.ne hBB (by decide)
         simp only at n1 n2
         have n1':=n1.symm
         have n2':=n2.symm
         have ff:∀ j,w2.frozen? ⟨F,j,none⟩=false:=fun j=>hfb.free j
         have lF:=hfb.lt
         have hm1:ns.length+1≤maxLen:=by unfold maxLen;omega
         have hm2:(ns.length+1) * 16≤140737488355328:=by omega
         have HFb:=hide hfb
         have HFo:=hide hfo
         have HBB:=hide hBB
         have MM:=hide (And.intro hm1 hm2)
         clear hfb hfo hBB hm1 hm2
         change Code.wp _ (Code.region _ #[_,_,_,_,_,_,_,_,_,_,id _,_,_,_,_,_,_,_] _) _ _ _
         go_region_held3 (fun w'=>w'.cell? ⟨σ.B,16,none⟩=some (.pointer (some ⟨F,0,none⟩))) (go_keep)
           ((refine step_append_lies _ (by rfl) _ _ _ (by rfl) N 131 i1 _ 1 16 Tryz.und_exprs hi1 hy0 hy1 hy2 rfl (by omega) fv ns.length (ns.map Nd.val) (by rfl) (by repeat (first | exact HFo.out | apply World.ownsRow.alloc | apply World.ownsRow.drew)) ⟨w2.heap.size,0,none⟩ 1 1 [cbV C] (by rfl) (by rfl) (news_one _ _ _) (by simp [Value.oneCell',cbV]) (by omega) MM.out.1 MM.out.2 (by simp;omega) (w2.heap.size+1) (by simp) ?_;intro gg cap w3 hown3 hgrow3 hat3 hlt3;have k3:=ex_append1 HFo.out hN2 hgrow3;have r16:w3.cell? ⟨σ.B,16,none⟩=some (.pointer (some ⟨F,0,none⟩)):=(HBB.out.keptU k3 (by decide)).cell 16 hB16;have rF:=HFb.out.keptU k3 (by decide);have r4:w3.cell? ⟨F,4,none⟩=some fv:=rF.cell 4 rfl;have rfr:∀ j,w3.frozen? ⟨F,j,none⟩=false:=fun j=>rF.free j;have HI4:=hide (HI2.out.flush rfl hN2 hNw k3 rfl hown3 rfl);clear hown3 hgrow3 hat3 hlt3 k3 rF))
         all_goals go_wp2_with fail
         all_goals go_roundg (gk - 1)
         all_goals
           first
           | omega
           | exact hide ⟨_,d,ds,_,_,_,s1,_,_,HTD.out,HI4.out,fun g e=>by simp [nilS,Value.ownBlock] at e,HR.out,HCH.out.2,HSS.out,by simp at hk;omega,by simp;omega,by simp;omega⟩
     · rw [hk2] at hkd
       have HK2:=hide hk2
       clear hk2
       go_wp2_with fail
       refine (peek_any σ.B (-5) _ hkd).mono ?_
       rintro e w1 ⟨rfl,rfl⟩
       go_wp2_with fail
       refine (lex_g N { σ with file:=.pointer (some ⟨F,0,none⟩) } wr c d _ f HI.out.ps hLt.out hTr.out HTD.out).mono ?_
       rintro e w2 ⟨rfl,hat2,hk2⟩
       have HI2:=hide (HI.out.lexed hk2 hat2)
       clear hat2 hk2
       unfold Tk.valG
       have hN2:N≤w2.heap.size:=by have:=HI2.out.ku.size;omega
       have hw2:w.heap.size≤w2.heap.size:=HI2.out.ku.size
       have HI3:=hide (HI2.out.quiet ((Ku.refl N (fun _ _=>False) w2).alloc hN2 (Obj.cells (c.cellsG σ.T) 153)))
       have hbt:=Blk.new w2 153 (c.cellsG σ.T)
       rcases HI2.out.cb with ⟨e2,e3⟩ | ⟨C,e2,e3⟩
       · subst e2
         clear e3
         have HI4:=hide (HI3.out.open (a1:=(lineAt σ.T c.s:Nat)) (a2:=(colAt σ.T c.s:Nat)) (a3:=(c.s:Nat)) (by simp;omega) (by simp;omega))
         rw [show (w2.alloc (Obj.cells (c.cellsG σ.T) 153)).heap.size=w2.heap.size+1 from by simp] at HI4
         have HTB:=hide (hbt.alloc (Obj.cells #[nilS,nilS,nilS,.int .i64 (lineAt σ.T c.s:Nat),.int .i64 (colAt σ.T c.s:Nat),.int .i64 (c.s:Nat)] 201))
         clear hbt HI3
         go_wp2_with fail
         change Calls _ _ _ ((w2.alloc (Obj.cells (c.cellsG σ.T) 153)).alloc (Obj.cells #[nilS,nilS,nilS,.int .i64 (lineAt σ.T c.s:Nat),.int .i64 (colAt σ.T c.s:Nat),.int .i64 (c.s:Nat)] 201)) _
         generalize ((w2.alloc (Obj.cells (c.cellsG σ.T) 153)).alloc (Obj.cells #[nilS,nilS,nilS,.int .i64 (lineAt σ.T c.s:Nat),.int .i64 (colAt σ.T c.s:Nat),.int .i64 (c.s:Nat)] 201))=Wv at HI4 HTB ⊢
         generalize w2.heap.size=bt at HI4 HTB hw2 ⊢
         unfold nilS at HI4
         have hN3:N≤Wv.heap.size:=by have:=HI4.out.ku.size;omega
         have hcx:∃ x1 x2 x3:Int,Blk Wv (bt+1) 201 #[.slice none 0 0,nilS,nilS,.int .i64 x1,.int .i64 x2,.int .i64 x3]:=by
           rcases HI4.out.cb with ⟨e9,_⟩ | ⟨C9,e9,⟨x1,x2,x3,hcb⟩,_⟩
           · cases e9
           · simp only [Value.pointer.injEq,Option.some.injEq,Addr.mk.injEq,and_true] at e9
             rw [e9]
             exact ⟨x1,x2,x3,hcb⟩
         obtain ⟨x1,x2,x3,hcb⟩:=hcx
         have c0:Wv.cell? ⟨bt+1,0,none⟩=some (.slice none 0 0):=hcb.cell 0 rfl
         have cf:∀ j,Wv.frozen? ⟨bt+1,j,none⟩=false:=fun j=>hcb.free j
         have cl:=hcb.lt
         have mCt:bt+1≠bt:=hcb.ne HTB.out (by decide)
         have mCt':=mCt.symm
         have t1:Wv.cell? ⟨bt,1,none⟩=some (.int .i64 (lineAt σ.T c.s:Nat)):=HTB.out.cell 1 rfl
         have t2:Wv.cell? ⟨bt,2,none⟩=some (.int .i64 (colAt σ.T c.s:Nat)):=HTB.out.cell 2 rfl
         have t3:Wv.cell? ⟨bt,3,none⟩=some (.int .i64 (c.s:Nat)):=HTB.out.cell 3 rfl
         have t7:Wv.cell? ⟨bt,7,none⟩=some (.string (mkS (tkTxt σ.T c))):=HTB.out.cell 7 rfl
         have nC:=World.new_ne Wv _ c0
         have nt:=World.new_ne Wv _ t1
         simp only at nC nt
         have nC':=nC.symm
         have nt':=nt.symm
         have hm1:0+1≤maxLen:=by unfold maxLen;omega
         have hm2:(0+1) * 48≤140737488355328:=by omega
         have HCB:=hide hcb
         have MM:=hide (And.intro hm1 hm2)
         have HCMx:=hide HI4.out.com
         have HOx:Hid (∀ g,(.slice none 0 0:Value).ownBlock=some g→¬ Q g):=hide (fun g e=>by simp [Value.ownBlock] at e)
         clear hcb hm1 hm2
         refine (comment_any _ _).mono ?_
         rintro e w3 ⟨rfl,rfl⟩
         go_wp2_with fail
         change Code.wp _ (Code.region _ #[_,_,_,_,id _,_,_,_,_,_,_,_,_,_,_] _) _ _ _
         go_region_held3 (fun w'=>w'.cell? ⟨bt,1,none⟩=some (.int .i64 (lineAt σ.T c.s:Nat))∧w'.cell? ⟨bt,2,none⟩=some (.int .i64 (colAt σ.T c.s:Nat))∧w'.cell? ⟨bt,3,none⟩=some (.int .i64 (c.s:Nat))∧w'.cell? ⟨bt,7,none⟩=some (.string (mkS (tkTxt σ.T c)))) (go_keep)
           ((refine step_append_lies _ (by rfl) _ _ _ (by rfl) N 194 i0 _ 5 48 Tryz.und_coms hi0 hz0 hz2 hz3 hz1 (by omega) (.slice none 0 0) (0) (cvals ([])) (by rfl) (by repeat (first | exact HCMx.out.1 | apply World.ownsRow.alloc | apply World.ownsRow.drew)) ⟨Wv.heap.size,0,none⟩ 1 1 [.int .i64 (lineAt σ.T c.s:Nat),.int .i64 (colAt σ.T c.s:Nat),.int .i64 (c.s:Nat),.string (mkS (tkTxt σ.T c)),.bool false] (by rfl) (by rfl) (news_one _ _ _) (by simp [Value.oneCell']) (by omega) MM.out.1 MM.out.2 (by simp;omega) (Wv.heap.size+1) (by simp) ?_;intro gg cap w3 hown3 hgrow3 hat3 hlt3;have k3:=com_append1 HCMx.out hN3 hgrow3;have rC:=HCB.out.keptU k3 (by simp);have rt:=HTB.out.keptU k3 (by simp);have r0:w3.cell? ⟨bt+1,0,none⟩=some (.slice none 0 0):=rC.cell 0 rfl;have rfr:∀ j,w3.frozen? ⟨bt+1,j,none⟩=false:=fun j=>rC.free j;have s1':w3.cell? ⟨bt,1,none⟩=some (.int .i64 (lineAt σ.T c.s:Nat)):=rt.cell 1 rfl;have s2':w3.cell? ⟨bt,2,none⟩=some (.int .i64 (colAt σ.T c.s:Nat)):=rt.cell 2 rfl;have s3':w3.cell? ⟨bt,3,none⟩=some (.int .i64 (c.s:Nat)):=rt.cell 3 rfl;have s7':w3.cell? ⟨bt,7,none⟩=some (.string (mkS (tkTxt σ.T c))):=rt.cell 7 rfl;have HI5:=hide (HI4.out.comment (x:=⟨(lineAt σ.T c.s:Nat),(colAt σ.T c.s:Nat),(c.s:Nat),tkTxt σ.T c,false⟩) HOx.out hNw (tkTxt_ok c HT.out.hT HI4.out.ps.asc) rfl k3 hown3 hat3 (Nat.le_succ _) hlt3 rfl);clear hown3 hgrow3 hat3 hlt3 k3 rC rt))
         all_goals go_wp2_with fail
         all_goals go_roundg (gk - 1)
         all_goals
           first
           | omega
           | exact hide ⟨_,d,ds,_,_,_,s1,_,_,HTD.out,HI5.out.1,HI5.out.2,HR.out,HCH.out.2,HSS.out,by simp at hk;omega,by simp;omega,by omega⟩
       · subst e2
         clear e3
         obtain ⟨ca,cc,rfl⟩:=owns_any HI2.out.com.1
         have HI4:=hide HI3.out
         have HTB:=hide hbt
         clear hbt HI3
         go_wp2_with fail
         change Calls _ _ _ (w2.alloc (Obj.cells (c.cellsG σ.T) 153)) _
         generalize w2.alloc (Obj.cells (c.cellsG σ.T) 153)=Wv at HI4 HTB ⊢
         generalize w2.heap.size=bt at HTB hw2 ⊢
         have hN3:N≤Wv.heap.size:=by have:=HI4.out.ku.size;omega
         have hcx:∃ x1 x2 x3:Int,Blk Wv C 201 #[.slice ca cms.length cc,nilS,nilS,.int .i64 x1,.int .i64 x2,.int .i64 x3]:=by
           rcases HI4.out.cb with ⟨e9,_⟩ | ⟨C9,e9,⟨x1,x2,x3,hcb⟩,_⟩
           · cases e9
           · simp only [Value.pointer.injEq,Option.some.injEq,Addr.mk.injEq,and_true] at e9
             rw [e9]
             exact ⟨x1,x2,x3,hcb⟩
         obtain ⟨x1,x2,x3,hcb⟩:=hcx
         have c0:Wv.cell? ⟨C,0,none⟩=some (.slice ca cms.length cc):=hcb.cell 0 rfl
         have cf:∀ j,Wv.frozen? ⟨C,j,none⟩=false:=fun j=>hcb.free j
         have cl:=hcb.lt
         have mCt:C≠bt:=hcb.ne HTB.out (by decide)
         have mCt':=mCt.symm
         have t1:Wv.cell? ⟨bt,1,none⟩=some (.int .i64 (lineAt σ.T c.s:Nat)):=HTB.out.cell 1 rfl
         have t2:Wv.cell? ⟨bt,2,none⟩=some (.int .i64 (colAt σ.T c.s:Nat)):=HTB.out.cell 2 rfl
         have t3:Wv.cell? ⟨bt,3,none⟩=some (.int .i64 (c.s:Nat)):=HTB.out.cell 3 rfl
         have t7:Wv.cell? ⟨bt,7,none⟩=some (.string (mkS (tkTxt σ.T c))):=HTB.out.cell 7 rfl
         have nC:=World.new_ne Wv _ c0
         have nt:=World.new_ne Wv _ t1
         simp only at nC nt
         have nC':=nC.symm
         have nt':=nt.symm
         have hm1:cms.length+1≤maxLen:=by unfold maxLen;omega
         have hm2:(cms.length+1) * 48≤140737488355328:=by omega
         have HCB:=hide hcb
         have MM:=hide (And.intro hm1 hm2)
         have HCMx:=hide HI4.out.com
         have HOx:Hid (∀ g,(.slice ca cms.length cc:Value).ownBlock=some g→¬ Q g):=hide (HO.out)
         clear hcb hm1 hm2
         refine (comment_any _ _).mono ?_
         rintro e w3 ⟨rfl,rfl⟩
         go_wp2_with fail
         change Code.wp _ (Code.region _ #[_,_,_,_,id _,_,_,_,_,_,_,_,_,_,_] _) _ _ _
         go_region_held3 (fun w'=>w'.cell? ⟨bt,1,none⟩=some (.int .i64 (lineAt σ.T c.s:Nat))∧w'.cell? ⟨bt,2,none⟩=some (.int .i64 (colAt σ.T c.s:Nat))∧w'.cell? ⟨bt,3,none⟩=some (.int .i64 (c.s:Nat))∧w'.cell? ⟨bt,7,none⟩=some (.string (mkS (tkTxt σ.T c)))) (go_keep)
           ((refine step_append_lies _ (by rfl) _ _ _ (by rfl) N 194 i0 _ 5 48 Tryz.und_coms hi0 hz0 hz2 hz3 hz1 (by omega) (.slice ca cms.length cc) (cms.length) (cvals (cms)) (by rfl) (by repeat (first | exact HCMx.out.1 | apply World.ownsRow.alloc | apply World.ownsRow.drew)) ⟨Wv.heap.size,0,none⟩ 1 1 [.int .i64 (lineAt σ.T c.s:Nat),.int .i64 (colAt σ.T c.s:Nat),.int .i64 (c.s:Nat),.string (mkS (tkTxt σ.T c)),.bool false] (by rfl) (by rfl) (news_one _ _ _) (by simp [Value.oneCell']) (by omega) MM.out.1 MM.out.2 (by simp;omega) (Wv.heap.size+1) (by simp) ?_;intro gg cap w3 hown3 hgrow3 hat3 hlt3;have k3:=com_append1 HCMx.out hN3 hgrow3;have rC:=HCB.out.keptU k3 (by simp);have rt:=HTB.out.keptU k3 (by simp);have r0:w3.cell? ⟨C,0,none⟩=some (.slice ca cms.length cc):=rC.cell 0 rfl;have rfr:∀ j,w3.frozen? ⟨C,j,none⟩=false:=fun j=>rC.free j;have s1':w3.cell? ⟨bt,1,none⟩=some (.int .i64 (lineAt σ.T c.s:Nat)):=rt.cell 1 rfl;have s2':w3.cell? ⟨bt,2,none⟩=some (.int .i64 (colAt σ.T c.s:Nat)):=rt.cell 2 rfl;have s3':w3.cell? ⟨bt,3,none⟩=some (.int .i64 (c.s:Nat)):=rt.cell 3 rfl;have s7':w3.cell? ⟨bt,7,none⟩=some (.string (mkS (tkTxt σ.T c))):=rt.cell 7 rfl;have HI5:=hide (HI4.out.comment (x:=⟨(lineAt σ.T c.s:Nat),(colAt σ.T c.s:Nat),(c.s:Nat),tkTxt σ.T c,false⟩) HOx.out hNw (tkTxt_ok c HT.out.hT HI4.out.ps.asc) rfl k3 hown3 hat3 (Nat.le_succ _) hlt3 rfl);clear hown3 hgrow3 hat3 hlt3 k3 rC rt))
         all_goals go_wp2_with fail
         all_goals go_roundg (gk - 1)
         all_goals
           first
           | omega
           | exact hide ⟨_,d,ds,_,_,_,s1,_,_,HTD.out,HI5.out.1,HI5.out.2,HR.out,HCH.out.2,HSS.out,by simp at hk;omega,by simp;omega,by omega⟩
   | line _ ts nl _ ss0 _ h1 h2 h3 hw hn r =>
     obtain ⟨d,ds,rfl⟩:=r.ne
     have f1:(c.k == 10)=false:=beq_eq_false_iff_ne.2 h1
     have f2:(c.k == -5)=false:=beq_eq_false_iff_ne.2 h2
     have f3:(c.k == -1)=false:=beq_eq_false_iff_ne.2 h3
     have hch:=HCH.out
     have HR:=hide r
     have HTD:=hide (ChainG.mid hch)
     have HCS:=hide (ChainG.suf (a:=ts++[nl]) (c:=d) (by simpa using hch))
     have hNF:N≤F:=by have:=HFe.out;omega
     have hw0:w.heap.size≤wr.heap.size:=HI.out.ku.size
     have HM:=hide (parseStmt_g N { σ with file:=.pointer (some ⟨F,0,none⟩) } wr (fun k=>Q k∨v.ownBlock=some k) f c ts [nl,d] none F ⟨#[]⟩ fnm (ns.map Nd.val) HI.out.ps hLt.out hTr.out (ChainG.pre (a:=ts++[nl,d]) (b:=ds) (by simpa using hch)) hw (StEnd.line nl d hn) (by simp at hk ⊢;omega) HPE.out HFN.out rfl HI.out.file (by simp;omega) hNF)
     clear hch r hw hn h1 h2 h3
     go_wp2_with fail
     refine (peek_any σ.B c.k _ hkd).mono ?_
     rintro e w1 ⟨rfl,rfl⟩
     go_wp2_with fail
     refine HM.out.mono ?_
     clear HM
     rintro e w2 ⟨_,_,he,X,rfl,hX,hat2,hk2,hln,hf2⟩
     simp only [List.cons.injEq,and_true] at he
     obtain ⟨rfl,rfl⟩:=he
     have HI2:=hide (HI.out.stmt (nd:=.ln X) (st:=.line c ts) hk2 (fun _ x=>x) hat2 (fun k hk=>Nat.lt_of_lt_of_le (hLt.out k hk) hk2.size) (.ln nilS [] hln (CmB.nil _ _) (fun g e=>by simp [nilS,Value.ownBlock] at e) .nil) (by simp [Nd.ids]) (by simpa [Nd.ids] using hX) hf2 hw0)
     have qx:w2.cell? ⟨X,0,none⟩=some (.slice none 0 0):=by obtain ⟨tv,hb,_⟩:=hln;exact hb.cell 0 rfl
     have hXb:∃ zs,Blk w2 X 136 zs:=by obtain ⟨tv,hb,_⟩:=hln;exact ⟨_,hb⟩
     clear hat2 hk2 hln hf2
     rcases HI2.out.cb with ⟨e2,e3⟩ | ⟨C,e2,e3⟩
     · subst e2
       have E3:=hide e3
       clear e3
       go_wp2_with fail
       go_roundg (ds.length+1)
       case measure=>simp at hk;omega
       case rel=>exact hide ⟨_,d,ds,_,cms,_,_,_,_,HTD.out,HI2.out,fun g e=>by rw [E3.out] at e;simp [nilS,Value.ownBlock] at e,HR.out,HCS.out,by rw [HSS.out];simp,rfl,by simp at hk;omega,by simp at hk ⊢;omega⟩
     · subst e2
       obtain ⟨ca,cc,rfl⟩:=owns_any HI2.out.com.1
       obtain ⟨⟨x1,x2,x3,hcb⟩,_⟩:=e3
       obtain ⟨zs,hXb⟩:=hXb
       obtain ⟨fv,hfb,hfo⟩:=HI2.out.file
       have hfo':w2.ownsRow N 131 1 fv (ns.length+1) (ns.map Nd.val++[Nd.val (.ln X)]):=by simpa using hfo
       obtain ⟨fg,fcap,rfl⟩:=owns_form hfo'
       obtain ⟨nn,hnn⟩:∃ n,n=ns.length+1:=⟨_,rfl⟩
       have nm:ns.length≤1000000:=by omega
       have nw:IntKind.i64.wrap ((nn:Int) - 1)=(ns.length:Int):=by rw [hnn];refine (Go.IntWalk.i64_in _ ?_).trans ?_ <;> omega
       have nb0:(0:Int)≤(ns.length:Int):=by omega
       have nb1:(ns.length:Int) < (nn:Int):=by omega
       rw [← hnn] at hfb hfo'
       have qe:w2.cell? ⟨fg,ns.length,none⟩=some (.iface 92 (.pointer (some ⟨X,0,none⟩))):=by
         rw [hfo'.cellAt ns.length (by rw [hnn];omega)]
         simp [Nd.val,lineV]
       obtain ⟨csB,hBB,hB16,_,_⟩:=HI2.out.ps.blk
       have q16:w2.cell? ⟨σ.B,16,none⟩=some (.pointer (some ⟨F,0,none⟩)):=hBB.cell 16 hB16
       have q4:w2.cell? ⟨F,4,none⟩=some (.slice (some ⟨fg,0,none⟩) nn fcap):=hfb.cell 4 (by simp)
       have qc:w2.cell? ⟨C,0,none⟩=some (.slice ca cms.length cc):=hcb.cell 0 rfl
       have xf:∀ j,w2.frozen? ⟨X,j,none⟩=false:=fun j=>hXb.free j
       have xl:=hXb.lt
       have HNN:=hide hnn
       have mB:X≠σ.B:=hXb.ne hBB (by decide)
       have mF:X≠F:=hXb.ne hfb (by decide)
       have mC:X≠C:=hXb.ne hcb (by decide)
       have mg:X≠fg:=fun e=>owns_ne hfo' hXb (by decide) (by simp [Value.ownBlock,e])
       have mB':=mB.symm
       have mF':=mF.symm
       have mC':=mC.symm
       have mg':=mg.symm
       clear hcb hXb hfb hfo hfo' hBB hB16 hnn
       go_wp2_with fail
       go_region_held3 (fun w'=>w'.cell? ⟨σ.B,16,none⟩=some (.pointer (some ⟨F,0,none⟩))∧w'.cell? ⟨F,4,none⟩=some (.slice (some ⟨fg,0,none⟩) nn fcap)∧w'.cell? ⟨fg,ns.length,none⟩=some (.iface 92 (.pointer (some ⟨X,0,none⟩)))∧w'.cell? ⟨C,0,none⟩=some (.slice ca cms.length cc)) (go_keep)
         ((go_fit (comment_any _ _);rintro e w9 ⟨rfl,rfl⟩))
       all_goals go_wp2_with fail
       all_goals go_roundg (ds.length+1)
       all_goals
         first
         | (simp at hk;omega)
         | exact hide ⟨_,d,ds,_,_,_,_,_,_,HTD.out,(HI2.out.attach hNw (Or.inl rfl) rfl (by omega)).quiet ((Ku.refl _ _ _).drew),fun g e=>by simp [nilS,Value.ownBlock] at e,HR.out,HCS.out,by rw [HSS.out];simp,rfl,by simp at hk ⊢;omega,by simp at hk ⊢;omega⟩
   | block _ ts lp e0 cs0 _ ls ss0 _ h1 h2 h3 hw hl he hb r =>
     obtain ⟨d,ds,rfl⟩:=r.ne
     obtain ⟨pb,hpb⟩:=hb.suffix _ rfl
     have f1:(c.k == 10)=false:=beq_eq_false_iff_ne.2 h1
     have f2:(c.k == -5)=false:=beq_eq_false_iff_ne.2 h2
     have f3:(c.k == -1)=false:=beq_eq_false_iff_ne.2 h3
     have hch:=HCH.out
     have HR:=hide r
     have hlen':(e0 :: cs0).length=pb.length+(ds.length+1):=by rw [hpb];simp
     have hpbn:pb≠[]:=by
       rintro rfl
       have:=hb.shorter _ rfl
       rw [hpb] at this
       simp at this
     obtain ⟨pb',y,rfl⟩:∃ pb' y,pb=pb'++[y]:=⟨pb.dropLast,pb.getLast hpbn,(List.dropLast_concat_getLast hpbn).symm⟩
     simp only [List.length_append,List.length_cons,List.length_nil] at hlen'
     have hch3:ChainG f σ.T c ((ts++lp :: pb')++y :: d :: ds):=by
       have e:(ts++lp :: pb')++y :: d :: ds=ts++lp :: (e0 :: cs0):=by rw [hpb];simp
       rw [e];exact hch
     have HTD:=hide (ChainG.mid hch3)
     have HCS:=hide (ChainG.suf (a:=ts++lp :: pb'++[y]) (c:=d) (by simpa using hch3))
     have hNF:N≤F:=by have:=HFe.out;omega
     have hw0:w.heap.size≤wr.heap.size:=HI.out.ku.size
     have HM:=hide (parseStmt_g N { σ with file:=.pointer (some ⟨F,0,none⟩) } wr (fun k=>Q k∨v.ownBlock=some k) f c ts (lp :: e0 :: cs0) (some (ls,some (d :: ds))) F ⟨#[]⟩ fnm (ns.map Nd.val) HI.out.ps hLt.out hTr.out hch hw (StEnd.block lp e0 cs0 ls _ hl he hb) (by simp at hk ⊢;omega) HPE.out HFN.out rfl HI.out.file (by simp;omega) hNF)
     clear hch r hw hl he hb h1 h2 h3 hpb hch3
     go_wp2_with fail
     refine (peek_any σ.B c.k _ hkd).mono ?_
     rintro e w1 ⟨rfl,rfl⟩
     go_wp2_with fail
     refine HM.out.mono ?_
     clear HM
     rintro e w2 (⟨X,Ls,Q2,tn,rest,hr,rfl,hX,hat2,hPQ,hQ2,hk2,hbk,hold,hf2⟩ | ⟨hr,_⟩)
     rotate_left
     · cases hr
     simp only [Option.some.injEq,List.cons.injEq] at hr
     obtain ⟨rfl,rfl⟩:=hr
     have hnd:(Nd.bk X Ls).ids.Nodup:=by
       obtain ⟨a1,a2,a3,p1,p2,p3,tv,lv,rb,cms',q1,q2,q3,b1,b2,b3,b4,b5,b6,b7⟩:=hbk
       simp only [Nd.ids,List.nodup_cons]
       refine ⟨fun hXL=>?_,b7.imp (fun h=>Nat.ne_of_lt h)⟩
       obtain ⟨ds',hb'⟩:=b4.ltw X hXL
       exact absurd rfl (b1.ne hb' (by decide))
     have HI2:=hide (HI.out.stmt (nd:=.bk X Ls) (st:=.block c ts ls) hk2 hPQ hat2 hQ2 (.bk nilS [] hbk (CmB.nil _ _) (fun g e=>by simp [nilS,Value.ownBlock] at e) .nil) hnd (by simp only [Nd.ids,List.mem_cons];exact fun k hk=>hk.elim (fun e=>e ▸ hX) (hold k)) hf2 hw0)
     have qx:w2.cell? ⟨X,0,none⟩=some (.slice none 0 0):=by
       obtain ⟨a1,a2,a3,p1,p2,p3,tv,lv,rb,cms',q1,q2,q3,b1,_⟩:=hbk
       exact b1.cell 0 rfl
     have hXb:∃ zs,Blk w2 X 143 zs:=by
       obtain ⟨a1,a2,a3,p1,p2,p3,tv,lv,rb,cms',q1,q2,q3,b1,_⟩:=hbk
       exact ⟨_,b1⟩
     clear hat2 hk2 hbk hf2 hnd
     rcases HI2.out.cb with ⟨e2,e3⟩ | ⟨C,e2,e3⟩
     · subst e2
       have E3:=hide e3
       clear e3
       go_wp2_with fail
       go_roundg (ds.length+1)
       case measure=>simp at hk;omega
       case rel=>exact hide ⟨_,d,ds,_,cms,_,_,_,_,HTD.out,HI2.out,fun g e=>by rw [E3.out] at e;simp [nilS,Value.ownBlock] at e,HR.out,HCS.out,by rw [HSS.out];simp,rfl,by simp at hk;omega,by simp at hk ⊢;omega⟩
     · subst e2
       obtain ⟨ca,cc,rfl⟩:=owns_any HI2.out.com.1
       obtain ⟨⟨x1,x2,x3,hcb⟩,_⟩:=e3
       obtain ⟨zs,hXb⟩:=hXb
       obtain ⟨fv,hfb,hfo⟩:=HI2.out.file
       have hfo':w2.ownsRow N 131 1 fv (ns.length+1) (ns.map Nd.val++[Nd.val (.bk X Ls)]):=by simpa using hfo
       obtain ⟨fg,fcap,rfl⟩:=owns_form hfo'
       obtain ⟨nn,hnn⟩:∃ n,n=ns.length+1:=⟨_,rfl⟩
       have nm:ns.length≤1000000:=by omega
       have nw:IntKind.i64.wrap ((nn:Int) - 1)=(ns.length:Int):=by rw [hnn];refine (Go.IntWalk.i64_in _ ?_).trans ?_ <;> omega
       have nb0:(0:Int)≤(ns.length:Int):=by omega
       have nb1:(ns.length:Int) < (nn:Int):=by omega
       rw [← hnn] at hfb hfo'
       have qe:w2.cell? ⟨fg,ns.length,none⟩=some (.iface 137 (.pointer (some ⟨X,0,none⟩))):=by
         rw [hfo'.cellAt ns.length (by rw [hnn];omega)]
         simp [Nd.val,lbV]
       obtain ⟨csB,hBB,hB16,_,_⟩:=HI2.out.ps.blk
       have q16:w2.cell? ⟨σ.B,16,none⟩=some (.pointer (some ⟨F,0,none⟩)):=hBB.cell 16 hB16
       have q4:w2.cell? ⟨F,4,none⟩=some (.slice (some ⟨fg,0,none⟩) nn fcap):=hfb.cell 4 (by simp)
       have qc:w2.cell? ⟨C,0,none⟩=some (.slice ca cms.length cc):=hcb.cell 0 rfl
       have xf:∀ j,w2.frozen? ⟨X,j,none⟩=false:=fun j=>hXb.free j
       have xl:=hXb.lt
       have HNN:=hide hnn
       have mB:X≠σ.B:=hXb.ne hBB (by decide)
       have mF:X≠F:=hXb.ne hfb (by decide)
       have mC:X≠C:=hXb.ne hcb (by decide)
       have mg:X≠fg:=fun e=>owns_ne hfo' hXb (by decide) (by simp [Value.ownBlock,e])
       have mB':=mB.symm
       have mF':=mF.symm
       have mC':=mC.symm
       have mg':=mg.symm
       clear hcb hXb hfb hfo hfo' hBB hB16 hnn
       go_wp2_with fail
       go_region_held3 (fun w'=>w'.cell? ⟨σ.B,16,none⟩=some (.pointer (some ⟨F,0,none⟩))∧w'.cell? ⟨F,4,none⟩=some (.slice (some ⟨fg,0,none⟩) nn fcap)∧w'.cell? ⟨fg,ns.length,none⟩=some (.iface 137 (.pointer (some ⟨X,0,none⟩)))∧w'.cell? ⟨C,0,none⟩=some (.slice ca cms.length cc)) (go_keep)
         ((go_fit (comment_any _ _);rintro e w9 ⟨rfl,rfl⟩))
       all_goals go_wp2_with fail
       all_goals go_roundg (ds.length+1)
       all_goals
         first
         | (simp at hk;omega)
         | exact hide ⟨_,d,ds,_,_,_,_,_,_,HTD.out,(HI2.out.attach hNw (Or.inr ⟨Ls,rfl⟩) rfl (by omega)).quiet ((Ku.refl _ _ _).drew),fun g e=>by simp [nilS,Value.ownBlock] at e,HR.out,HCS.out,by rw [HSS.out];simp,rfl,by simp at hk ⊢;omega,by simp at hk ⊢;omega⟩
   | bad _ ts lp e0 cs0 ls h1 h2 h3 hw hl he hb =>
     have f1:(c.k == 10)=false:=beq_eq_false_iff_ne.2 h1
     have f2:(c.k == -5)=false:=beq_eq_false_iff_ne.2 h2
     have f3:(c.k == -1)=false:=beq_eq_false_iff_ne.2 h3
     have hNF:N≤F:=by have:=HFe.out;omega
     have hw0:w.heap.size≤wr.heap.size:=HI.out.ku.size
     have HM:=hide (parseStmt_g N { σ with file:=.pointer (some ⟨F,0,none⟩) } wr (fun k=>Q k∨v.ownBlock=some k) f c ts (lp :: e0 :: cs0) (some (ls,none)) F ⟨#[]⟩ fnm (ns.map Nd.val) HI.out.ps hLt.out hTr.out HCH.out hw (StEnd.block lp e0 cs0 ls _ hl he hb) (by simp at hk ⊢;omega) HPE.out HFN.out rfl HI.out.file (by simp;omega) hNF)
     clear hw hl he hb h1 h2 h3
     go_wp2_with fail
     refine (peek_any σ.B c.k _ hkd).mono ?_
     rintro e w1 ⟨rfl,rfl⟩
     go_wp2_with fail
     refine HM.out.mono ?_
     clear HM
     rintro e w2 (⟨X,Ls,Q2,tn,rest,hr,_⟩ | ⟨_,he,hk2,hc2⟩)
     · cases hr
     subst he
     have HX:Panics N σ w (StmtP P) (panicE σ.B) w2:=by
       refine ⟨rfl,HI.out.ku.trans' hk2 (fun i t hi x=>x.elim (fun x=>Or.inl (x.elim Or.inl (fun x=>Or.inr ⟨x.1,fun hP=>x.2 (Or.inl (HI.out.sub i hP))⟩))) (fun x=>Or.inr x)),hc2⟩
     have HX':=hide HX
     clear hk2 hc2 HX
     unfold panicE at HX' ⊢
     go_wp2_with fail
     exact ⟨rfl,Or.inr ⟨rfl,HX'.out⟩⟩
end
end Go.Proofs.YtifkpibjeamfkaaGreatFmt
