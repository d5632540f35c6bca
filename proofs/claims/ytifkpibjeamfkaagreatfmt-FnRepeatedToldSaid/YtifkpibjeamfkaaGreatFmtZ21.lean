/-
  (*input).parseStmt.
-/
import Derived.Test.YtifkpibjeamfkaaGreatFmtZ20
set_option linter.unusedVariables false
set_option linter.unusedSimpArgs false
set_option maxRecDepth 100000
namespace Go.Proofs.YtifkpibjeamfkaaGreatFmt
section
set_option linter.unusedSimpArgs false
open Go.RowKit Go.Proofs
def PSG (N:Nat) (σ:Lx) (w:World) (P:Nat→Prop) (t:Tk) (ts:List Tk) (tl:List Tk) (F:Nat) (nm:ByteArray) (xs:List Value) (b3 b4:Nat) (k:Nat) (v5:Value) (wr:World):Prop :=
 ∃ pre rest c cs,ts=pre++rest∧rest.length=k∧rest++tl=c :: cs∧PsAt N wr σ c P∧Blk wr b3 134 (Tk.pos σ.T t.s)∧Blk wr b4 134 (Tk.pos σ.T (lastTk t pre).e) ∧
   wr.ownsRow w.heap.size 9 1 v5 (pre.length+1) (tvals σ.T (t :: pre))∧Ku N (LexP P) w wr∧FileAt N wr F nm xs
set_option maxHeartbeats 8000000 in
theorem parseStmt_g (N:Nat) (σ:Lx) (w:World) (P:Nat→Prop) (f:Nat→Int) (t:Tk) (ts tl:List Tk) (o:Option (List (Tk × List Tk) × Option (List Tk))) (F:Nat) (nm fnm:ByteArray) (xs:List Value) (h:PsAt N w σ t P) (hP:∀ k,P k→k < w.heap.size) (hT:Tabs N w σ f)
   (hch:ChainG f σ.T t (ts++tl)) (hw:∀ u ∈ ts,NonE u∧u.k≠40) (hst:StEnd σ.T f tl o) (hlen:ts.length+tl.length≤1000000) (hpe:σ.perr=nilS) (hfn:σ.fn=.string fnm)
   (hfile:σ.file=.pointer (some ⟨F,0,none⟩)) (hF:FileAt N w F nm xs) (hxs:xs.length≤1000000) (hNF:N≤F) :
   Calls Tryz.prog 97 #[.pointer (some ⟨σ.B,0,none⟩)] w (PsPost N σ w P t ts tl o F nm xs):=by
 obtain ⟨i0,hi0,hz0,hz1,hz2⟩:=info_parts Tryz.infoStr
 have htl:∃ x y ys,tl=x :: y :: ys:=by cases hst <;> exact ⟨_,_,_,rfl⟩
 obtain ⟨t1,trest,hts⟩:∃ t1 trest,ts++tl=t1 :: trest:=by
   obtain ⟨x,y,ys,rfl⟩:=htl
   cases ts with
   | nil=>exact ⟨_,_,rfl⟩
   | cons a b=>exact ⟨_,_,rfl⟩
 have hc0:TokG f σ.T t.e t1:=by rw [hts] at hch;exact hch.1
 have hBw:=h.lt
 have hNw:N≤w.heap.size:=by have:=hT.hN;omega
 have H:=hide h
 have HP:=hide hP
 have HT:=hide hT
 have HC:=hide hch
 have HC0:=hide hc0
 have HW:=hide hw
 have HTS:=hide hts
 have HST:=hide hst
 have HF:=hide hF
 have HPE:=hide hpe
 have HFN:=hide hfn
 have HFI:=hide hfile
 have HTL:=hide htl
 clear h hP hT hch hc0 hw hts hst hF hpe hfn hfile htl
 go_enter Tryz.func97,Tryz.ntmps97
 go_wp2_with fail
 refine (lex_g N σ _ t t1 P f H.out HP.out HT.out HC0.out).mono ?_
 rintro e w1 ⟨rfl,hat1,hk1⟩
 have A1:=hide hat1
 have K1:=hide hk1
 clear hat1 hk1
 unfold Tk.valG
 go_wp2_with fail
 have hs1:w.heap.size≤w1.heap.size:=K1.out.size
 have hN1:N≤w1.heap.size:=by omega
 have c1:=Blk.new w1 153 (t.cellsG σ.T)
 have c2:=Blk.new (w1.alloc (Obj.cells (t.cellsG σ.T) 153)) 134 (Tk.pos σ.T t.s)
 have c3:=Blk.new ((w1.alloc (Obj.cells (t.cellsG σ.T) 153)).alloc (Obj.cells (Tk.pos σ.T t.s) 134)) 134 (Tk.pos σ.T t.e)
 have c2':=(c2.alloc (Obj.cells (Tk.pos σ.T t.e) 134)).alloc (Obj.cells #[Value.string (mkS (tkTxt σ.T t))] 9)
 have c3':=c3.alloc (Obj.cells #[Value.string (mkS (tkTxt σ.T t))] 9)
 have c4':((((w1.alloc (Obj.cells (t.cellsG σ.T) 153)).alloc (Obj.cells (Tk.pos σ.T t.s) 134)).alloc (Obj.cells (Tk.pos σ.T t.e) 134)).alloc (Obj.cells #[Value.string (mkS (tkTxt σ.T t))] 9)).ownsRow w.heap.size 9 1 (.slice (some ⟨w1.heap.size+1+1+1,0,none⟩) 1 1) 1 [Value.string (mkS (tkTxt σ.T t))]:=by
   have:=owns_new (((w1.alloc (Obj.cells (t.cellsG σ.T) 153)).alloc (Obj.cells (Tk.pos σ.T t.s) 134)).alloc (Obj.cells (Tk.pos σ.T t.e) 134)) w.heap.size 9 #[Value.string (mkS (tkTxt σ.T t))] (by simp;omega) (by simp [maxLen])
   simpa using this
 have kk:Ku N (fun _ _=>False) w1 ((((w1.alloc (Obj.cells (t.cellsG σ.T) 153)).alloc (Obj.cells (Tk.pos σ.T t.s) 134)).alloc (Obj.cells (Tk.pos σ.T t.e) 134)).alloc (Obj.cells #[Value.string (mkS (tkTxt σ.T t))] 9)):=((((Ku.refl _ _ _).alloc hN1 _).alloc hN1 _).alloc hN1 _).alloc hN1 _
 have INV:Hid (PSG N σ w P t ts tl F nm xs (w1.heap.size+1) (w1.heap.size+1+1) ts.length (.slice (some ⟨w1.heap.size+1+1+1,0,none⟩) 1 1) ((((w1.alloc (Obj.cells (t.cellsG σ.T) 153)).alloc (Obj.cells (Tk.pos σ.T t.s) 134)).alloc (Obj.cells (Tk.pos σ.T t.e) 134)).alloc (Obj.cells #[Value.string (mkS (tkTxt σ.T t))] 9))):=by
   refine hide ⟨[],ts,t1,trest,rfl,rfl,HTS.out,A1.out.keptU kk id id (fun _ h=>h.elim),?_,?_,c4',K1.out.trans (kk.mono (fun _ _ h=>h.elim)),?_⟩
   · simpa using c2'
   · simpa [lastTk] using c3'
   · exact (HF.out.keptU K1.out (by simp [LexP]) (by simp [LexP])).keptU kk id (fun _=>id)
 change Code.wp _ _ _ _ ((((w1.alloc (Obj.cells (t.cellsG σ.T) 153)).alloc (Obj.cells (Tk.pos σ.T t.s) 134)).alloc (Obj.cells (Tk.pos σ.T t.e) 134)).alloc (Obj.cells #[Value.string (mkS (tkTxt σ.T t))] 9))
 generalize ((((w1.alloc (Obj.cells (t.cellsG σ.T) 153)).alloc (Obj.cells (Tk.pos σ.T t.s) 134)).alloc (Obj.cells (Tk.pos σ.T t.e) 134)).alloc (Obj.cells #[Value.string (mkS (tkTxt σ.T t))] 9))=W at INV ⊢
 clear c1 c2 c3 c2' c3' c4' kk
 have hb3w:w.heap.size≤w1.heap.size+1:=by omega
 generalize w1.heap.size+1=b3 at INV hb3w ⊢
 go_loopg [5] ts.length (fun k v5 wr=>Hid (PSG N σ w P t ts tl F nm xs b3 (b3+1) k v5 wr))
 case atStart=>exact INV
 case round =>
   obtain ⟨pre,rest,c,cs,hpr,hgk,hrc,hatc,hB3,hB4,hown,hkt,hF2⟩:=hrel.out
   clear hrel INV
   have hcs:∃ d ds,cs=d :: ds∧TokG f σ.T c.e d:=by
     have h1:=HC.out
     rw [hpr,List.append_assoc,hrc] at h1
     obtain ⟨x,y,ys,hx⟩:=HTL.out
     cases cs with
     | nil =>
       rw [hx] at hrc
       cases rest with
       | nil=>simp at hrc
       | cons a b=>cases b <;> simp at hrc
     | cons d ds=>exact ⟨d,ds,rfl,ChainG.mid h1⟩
   obtain ⟨d,ds,rfl,htd⟩:=hcs
   have HPR:=hide hpr
   have HGK:=hide hgk
   have HRC:=hide hrc
   have HAC:=hide hatc
   have HTD:=hide htd
   have HB3:=hide hB3
   have HB4:=hide hB4
   have HO:=hide hown
   have HK:=hide hkt
   have HF2:=hide hF2
   clear hpr hgk hrc hatc htd hB3 hB4 hown hkt hF2
   go_wp2_with fail
   refine (lex_g N σ _ c d P f HAC.out (fun k hk=>Nat.lt_of_lt_of_le (HP.out k hk) HK.out.size) (HT.out.below HK.out.below) HTD.out).mono ?_
   rintro e w2 ⟨rfl,hat2,hk2⟩
   have HA2:=hide hat2
   have HK2:=hide hk2
   clear hat2 hk2
   unfold Tk.valG
   have hpos:=HB3.out.keptU HK2.out (by simp [LexP])
   have hpos2:=HB4.out.keptU HK2.out (by simp [LexP])
   have hto:=ownsRow_keptU HO.out HK2.out (by simp [LexP])
   have hF3:=HF2.out.keptU HK2.out (by simp [LexP]) (by simp [LexP])
   have hwsz:w.heap.size≤w2.heap.size:=by have:=HK2.out.size;have:=HK.out.size;omega
   have HF3:=hide hF3
   clear hF3
   rcases Nat.eq_zero_or_pos gk with h0 | h0
   · subst h0
     have hr:tl=c :: d :: ds∧ts=pre:=by
       have h1:=HGK.out
       have h2:=HRC.out
       have h3:=HPR.out
       have:rest=[]:=List.eq_nil_of_length_eq_zero h1
       subst this
       simp at h2 h3
       exact ⟨h2,h3⟩
     obtain ⟨htl2,rfl⟩:=hr
     obtain ⟨rg,rcap,rfl⟩:=owns_form HO.out
     have ktot:Ku N (LexP P) w w2:=HK.out.trans HK2.out
     have HKT:=hide ktot
     have HTO:=hide hto
     have HPOS:=hide hpos
     have HPOS2:=hide hpos2
     clear ktot hto hpos hpos2
     have hst2:=HST.out
     rw [htl2] at hst2
     cases hst2 with
     | line nl tn hnl =>
       have hal:Ku N (fun _ _=>False) w2 (w2.alloc (Obj.cells (c.cellsG σ.T) 153)):=(Ku.refl _ _ _).alloc (by omega) _
       have ktot:Ku N (LexP P) w (w2.alloc (Obj.cells (c.cellsG σ.T) 153)):=HKT.out.trans (hal.mono (fun _ _ x=>x.elim))
       have hpos':=HPOS.out.alloc (Obj.cells (c.cellsG σ.T) 153)
       have hpos2':=HPOS2.out.alloc (Obj.cells (c.cellsG σ.T) 153)
       obtain ⟨fv,hfb,hfo⟩:=HF3.out.keptU hal id (fun _=>id)
       have hat':PsAt N (w2.alloc (Obj.cells (c.cellsG σ.T) 153)) σ d P:=HA2.out.keptU hal id id (fun _ x=>x.elim)
       have hto':=HTO.out.alloc (Obj.cells (c.cellsG σ.T) 153)
       have hwv:w.heap.size≤(w2.alloc (Obj.cells (c.cellsG σ.T) 153)).heap.size:=by simp;omega
       have HNL:=hide hnl
       clear hal hnl
       go_wp2_with fail
       refine (isEOL_yes c HNL.out _).mono ?_
       rintro e w' ⟨rfl,rfl⟩
       go_wp2_with fail
       change Code.wp _ _ _ _ (w2.alloc (Obj.cells (c.cellsG σ.T) 153))
       generalize w2.alloc (Obj.cells (c.cellsG σ.T) 153)=Wv at hpos' hpos2' hfb hfo hat' hto' ktot hwv ⊢
       obtain ⟨csB,hBB,hB16,_,_⟩:=hat'.blk
       rw [HFI.out] at hB16
       have q16:Wv.cell? ⟨σ.B,16,none⟩=some (.pointer (some ⟨F,0,none⟩)):=hBB.cell 16 hB16
       have m1:F≠σ.B:=hfb.ne hBB (by decide)
       have m2:F≠b3:=hfb.ne hpos' (by decide)
       have m3:F≠b3+1:=hfb.ne hpos2' (by decide)
       have q4:Wv.cell? ⟨F,4,none⟩=some fv:=hfb.cell 4 rfl
       have qs0:Wv.cell? ⟨b3,0,none⟩=some (.int .i64 (lineAt σ.T t.s:Nat)):=hpos'.cell 0 rfl
       have qe0:Wv.cell? ⟨b3+1,0,none⟩=some (.int .i64 (lineAt σ.T (lastTk t ts).e:Nat)):=hpos2'.cell 0 rfl
       have qs1:Wv.cell? ⟨b3,1,none⟩=some (.int .i64 (colAt σ.T t.s:Nat)):=hpos'.cell 1 rfl
       have qe1:Wv.cell? ⟨b3+1,1,none⟩=some (.int .i64 (colAt σ.T (lastTk t ts).e:Nat)):=hpos2'.cell 1 rfl
       have qs2:Wv.cell? ⟨b3,2,none⟩=some (.int .i64 (t.s:Nat)):=hpos'.cell 2 rfl
       have qe2:Wv.cell? ⟨b3+1,2,none⟩=some (.int .i64 ((lastTk t ts).e:Nat)):=hpos2'.cell 2 rfl
       have n1:=World.new_ne Wv _ q16
       have n2:=World.new_ne Wv _ q4
       have n3:=World.new_ne Wv _ qs0
       have n4:=World.new_ne Wv _ qe0
       simp only at n1 n2 n3 n4
       have ff:∀ j,Wv.frozen? ⟨F,j,none⟩=false:=fun j=>hfb.free j
       have lF:=hfb.lt
       have lB:=World.block_lt_of_cell? Wv _ q16
       have l3:=hpos'.lt
       have l4:=hpos2'.lt
       simp only at lB
       have Hpos:=hide hpos'
       have Hpos2:=hide hpos2'
       have HFb:=hide hfb
       have HFo:=hide hfo
       have HAt:=hide hat'
       have HTo:=hide hto'
       have HKt:=hide ktot
       clear hpos' hpos2' hfb hfo hat' hto' ktot
       obtain ⟨i1,hi1,hy0,hy1,hy2⟩:=info_parts Tryz.infoExpr
       have hm1:xs.length+1≤maxLen:=by unfold maxLen;omega
       have hm2:(xs.length+1) * 16≤140737488355328:=by omega
       have HBB:=hide hBB
       clear hBB
       have hNv:N≤Wv.heap.size:=Nat.le_trans hNw hwv
       change Code.wp _ (Code.region _ #[_,_,_,_,_,_,_,_,_,_,id _,_,_,_,_,_,_,_,_,_,_,_] _) _ _ _
       go_region_held3 (fun w'=>w'.cell? ⟨σ.B,16,none⟩=some (.pointer (some ⟨F,0,none⟩)) ∧
           w'.cell? ⟨b3,0,none⟩=some (.int .i64 (lineAt σ.T t.s:Nat))∧w'.cell? ⟨b3,1,none⟩=some (.int .i64 (colAt σ.T t.s:Nat))∧w'.cell? ⟨b3,2,none⟩=some (.int .i64 (t.s:Nat)) ∧
           w'.cell? ⟨b3+1,0,none⟩=some (.int .i64 (lineAt σ.T (lastTk t ts).e:Nat))∧w'.cell? ⟨b3+1,1,none⟩=some (.int .i64 (colAt σ.T (lastTk t ts).e:Nat))∧w'.cell? ⟨b3+1,2,none⟩=some (.int .i64 ((lastTk t ts).e:Nat)))
         (go_keep)
         ((refine step_append_lies _ (by rfl) _ _ _ (by rfl) N 131 i1 _ 1 16 Tryz.und_exprs hi1 hy0 hy1 hy2 rfl (by omega) fv xs.length xs (by rfl) (by repeat (first | exact HFo.out | apply World.ownsRow.alloc | apply World.ownsRow.drew)) ⟨Wv.heap.size+1,0,none⟩ 1 1 [lineV Wv.heap.size] (by rfl) (by rfl) (news_two _ _ _ _) (by simp [Value.oneCell',lineV]) (by omega) hm1 hm2 (by simp;omega) (Wv.heap.size+1+1) (by simp) ?_;intro gg cap w3 hown3 hgrow3 hat3 hlt3;have hk3:=ps_append2 _ _ HFo.out hNv hgrow3;have hLn:=((Blk.new Wv.drew _ _).alloc _).keptT (Kt.of_append ((HFo.out.drew.alloc _).alloc _) hgrow3 (by simp;omega)) (by decide);clear hgrow3 hat3 hlt3;have r16:=(HBB.out.keptT hk3 (by decide)).cell 16 hB16;have rF:=HFb.out.keptT hk3 (by decide);have r4:w3.cell? ⟨F,4,none⟩=some fv:=rF.cell 4 rfl;have rfr:∀ j,w3.frozen? ⟨F,j,none⟩=false:=fun j=>rF.free j;have rp:=Hpos.out.keptT hk3 (by decide);have rp2:=Hpos2.out.keptT hk3 (by decide);have s0:w3.cell? ⟨b3,0,none⟩=some (.int .i64 (lineAt σ.T t.s:Nat)):=rp.cell 0 rfl;have s1:w3.cell? ⟨b3,1,none⟩=some (.int .i64 (colAt σ.T t.s:Nat)):=rp.cell 1 rfl;have s2:w3.cell? ⟨b3,2,none⟩=some (.int .i64 (t.s:Nat)):=rp.cell 2 rfl;have u0:w3.cell? ⟨b3+1,0,none⟩=some (.int .i64 (lineAt σ.T (lastTk t ts).e:Nat)):=rp2.cell 0 rfl;have u1:w3.cell? ⟨b3+1,1,none⟩=some (.int .i64 (colAt σ.T (lastTk t ts).e:Nat)):=rp2.cell 1 rfl;have u2:w3.cell? ⟨b3+1,2,none⟩=some (.int .i64 ((lastTk t ts).e:Nat)):=rp2.cell 2 rfl;have HK3:=hide hk3;have HOWN3:=hide hown3;have HLN:=hide hLn;have HRF:=hide rF;clear hk3 hown3 hLn rF rp rp2))
       all_goals go_wp2_with fail
       all_goals go_returns
       all_goals
         have kend:Ku N (fun _ u=>u=129∨u=131) Wv (w3.setCell ⟨F,4,none⟩ (.slice (some ⟨gg,0,none⟩) (xs.length+1) cap)):=by
           refine Ku.set_blk ?_ hNF HFb.out (Or.inl rfl)
           exact (Ku.of_kt HK3.out).mono (fun _ _ h=>Or.inr h)
         have kf:Ku N (fun _ u=>u=129) w3 (w3.setCell ⟨F,4,none⟩ (.slice (some ⟨gg,0,none⟩) (xs.length+1) cap)):=by
           refine Ku.set_blk ?_ hNF HRF.out rfl
           exact Ku.refl _ _ _
         have hFL:F≠Wv.heap.size:=by omega
         refine ⟨_,_,htl2,Wv.heap.size,rfl,hwv,HAt.out.keptU kend (by decide) (by decide) (fun g x=>by rcases x with x | x <;> exact absurd x (by decide)),(HKt.out.mono (fun _ _ x=>Or.inl x)).trans (kend.mono (fun _ _ x=>Or.inr x)),⟨_,HLN.out.set_other (by simpa using hFL.symm) _,own_low (ownsRow_keptU HTo.out kend (fun _ _=>by decide)) hNw⟩,_,HRF.out.set 4 _,?_⟩
         have:=ownsRow_keptU HOWN3.out kf (fun _ _=>by decide)
         simpa using this
     | block lp e0 ds ls r hlp he hb =>
       have hal:Ku N (fun _ _=>False) w2 (w2.alloc (Obj.cells (c.cellsG σ.T) 153)):=(Ku.refl _ _ _).alloc (by omega) _
       have ktot:Ku N (LexP P) w (w2.alloc (Obj.cells (c.cellsG σ.T) 153)):=HKT.out.trans (hal.mono (fun _ _ x=>x.elim))
       have hpos':=HPOS.out.alloc (Obj.cells (c.cellsG σ.T) 153)
       have hpos2':=HPOS2.out.alloc (Obj.cells (c.cellsG σ.T) 153)
       obtain ⟨fv,hfb,hfo⟩:=HF3.out.keptU hal id (fun _=>id)
       have hat':PsAt N (w2.alloc (Obj.cells (c.cellsG σ.T) 153)) σ d P:=HA2.out.keptU hal id id (fun _ x=>x.elim)
       have hto':=HTO.out.alloc (Obj.cells (c.cellsG σ.T) 153)
       have hwv:w.heap.size≤(w2.alloc (Obj.cells (c.cellsG σ.T) 153)).heap.size:=by simp;omega
       have hE:=hide he
       have HBD:=hide hb
       have hne:NonE c:=⟨by rw [hlp];decide,by rw [hlp];decide,by rw [hlp];decide⟩
       have f40:(c.k == 40)=true:=by rw [hlp];rfl
       have HNE:=hide hne
       have hb6:Blk (w2.alloc (Obj.cells (c.cellsG σ.T) 153)) w2.heap.size 153 (c.cellsG σ.T):=Blk.new _ _ _
       have hkd:(w2.alloc (Obj.cells (c.cellsG σ.T) 153)).cell? ⟨σ.B,4,none⟩=some (.int .i64 d.k):=hat'.kind
       have hch2:ChainG f σ.T d ds:=by
         have h1:=HC.out
         rw [htl2] at h1
         exact ChainG.suf (a:=ts++[c]) (by simpa using h1)
       have HCH2:=hide hch2
       have HKD:=hide hkd
       clear hal he hb hlp hne hch2 hkd
       go_wp2_with fail
       refine (isEOL_no' c HNE.out _).mono ?_
       rintro e w' ⟨rfl,rfl⟩
       go_wp2_with fail
       refine (peek_any σ.B d.k _ HKD.out).mono ?_
       rintro e w' ⟨rfl,rfl⟩
       go_wp2_with fail
       refine (isEOL_yes d hE.out _).mono ?_
       rintro e w' ⟨rfl,rfl⟩
       go_wp2_with fail
       change Code.wp _ _ _ _ (w2.alloc (Obj.cells (c.cellsG σ.T) 153))
       clear HKD
       generalize w2.alloc (Obj.cells (c.cellsG σ.T) 153)=Wv at hpos' hpos2' hfb hfo hat' hto' ktot hwv hb6 ⊢
       generalize w2.heap.size=b6 at hb6 ⊢
       obtain ⟨csB,hBB,hB16,_,_⟩:=hat'.blk
       rw [HFI.out] at hB16
       have q16:Wv.cell? ⟨σ.B,16,none⟩=some (.pointer (some ⟨F,0,none⟩)):=hBB.cell 16 hB16
       have m1:F≠σ.B:=hfb.ne hBB (by decide)
       have m2:F≠b3:=hfb.ne hpos' (by decide)
       have m3:F≠b6:=hfb.ne hb6 (by decide)
       have q4:Wv.cell? ⟨F,4,none⟩=some fv:=hfb.cell 4 rfl
       have qs0:Wv.cell? ⟨b3,0,none⟩=some (.int .i64 (lineAt σ.T t.s:Nat)):=hpos'.cell 0 rfl
       have qs1:Wv.cell? ⟨b3,1,none⟩=some (.int .i64 (colAt σ.T t.s:Nat)):=hpos'.cell 1 rfl
       have qs2:Wv.cell? ⟨b3,2,none⟩=some (.int .i64 (t.s:Nat)):=hpos'.cell 2 rfl
       have qk0:Wv.cell? ⟨b6,0,none⟩=some (.int .i64 c.k):=hb6.cell 0 rfl
       have qk1:Wv.cell? ⟨b6,1,none⟩=some (.int .i64 (lineAt σ.T c.s:Nat)):=hb6.cell 1 rfl
       have qk2:Wv.cell? ⟨b6,2,none⟩=some (.int .i64 (colAt σ.T c.s:Nat)):=hb6.cell 2 rfl
       have qk3:Wv.cell? ⟨b6,3,none⟩=some (.int .i64 (c.s:Nat)):=hb6.cell 3 rfl
       have qk4:Wv.cell? ⟨b6,4,none⟩=some (.int .i64 (lineAt σ.T c.e:Nat)):=hb6.cell 4 rfl
       have qk5:Wv.cell? ⟨b6,5,none⟩=some (.int .i64 (colAt σ.T c.e:Nat)):=hb6.cell 5 rfl
       have qk6:Wv.cell? ⟨b6,6,none⟩=some (.int .i64 (c.e:Nat)):=hb6.cell 6 rfl
       have qk7:Wv.cell? ⟨b6,7,none⟩=some (.string (mkS (tkTxt σ.T c))):=hb6.cell 7 rfl
       have ff:∀ j,Wv.frozen? ⟨F,j,none⟩=false:=fun j=>hfb.free j
       have lF:=hfb.lt
       have lB:=World.block_lt_of_cell? Wv _ q16
       have l3:=hpos'.lt
       have l6:=hb6.lt
       simp only at lB
       have Hpos:=hide hpos'
       have Hb6:=hide hb6
       have HFb:=hide hfb
       have HFo:=hide hfo
       have HAt:=hide hat'
       have HTo:=hide hto'
       have HKt:=hide ktot
       have HPV:Hid (∀ k,P k→k < Wv.heap.size):=hide (fun k hk=>Nat.lt_of_lt_of_le (HP.out k hk) ktot.size)
       have HTV:Hid (Tabs N Wv σ f):=hide (HT.out.below ktot.below)
       clear hpos' hpos2' hfb hfo hat' hto' ktot hb6
       obtain ⟨i1,hi1,hy0,hy1,hy2⟩:=info_parts Tryz.infoExpr
       have hm1:xs.length+1≤maxLen:=by unfold maxLen;omega
       have hm2:(xs.length+1) * 16≤140737488355328:=by omega
       have HBB:=hide hBB
       clear hBB
       have hNv:N≤Wv.heap.size:=Nat.le_trans hNw hwv
       have kdr:Ku N (fun _ _=>False) Wv Wv.drew:=(Ku.refl _ _ _).drew
       have hcl:ds.length≤1000000:=by rw [htl2] at hlen;simp at hlen;omega
       have HM:=hide (plb_g N σ Wv.drew P f d ds ls r (lineAt σ.T t.s:Nat) (colAt σ.T t.s:Nat) (t.s:Nat) rg (ts.length+1) rcap c fnm (HAt.out.keptU kdr id id (fun _ x=>x.elim)) HPV.out (HTV.out.below kdr.below) c.e HTD.out HBD.out HCH2.out hcl HPE.out HFN.out)
       clear kdr
       unfold Tk.valG at HM
       rcases r with _ | r
       · have HM2:=hide (HM.out.mono (fun e w5 x=>x.elim (fun x=>by obtain ⟨X,lv,rb,cms,q1,q2,q3,Ls,Q,t',rest',e0,_⟩:=x;cases e0) (fun x=>x.2)))
         have HFIN:Hid (∀ w5,Ku N (LexP P) Wv.drew w5→(∃ cs g cap,Blk w5 σ.B 155 cs∧cs[17]?=some (.slice (some ⟨g,0,none⟩) 1 cap))→PsPost N σ w P t ts (c :: d :: ds) (some (ls,none)) F nm xs (.panicked [{ v:=.iface 123 (.pointer (some ⟨σ.B,17,none⟩)),recovered:=false }]) w5) :=
           hide (fun w5 k5 c5=>Or.inr ⟨rfl,rfl,(HKt.out.trans (((Ku.refl N (LexP P) Wv).drew).trans k5)).mono (fun _ _ x=>Or.inl x),c5⟩)
         clear HM
         refine wp_region_held_drew (S:=(fun w'=>w'.cell? ⟨σ.B,16,none⟩=some (.pointer (some ⟨F,0,none⟩))∧w'.cell? ⟨F,4,none⟩=some fv ∧
             w'.cell? ⟨b3,0,none⟩=some (.int .i64 (lineAt σ.T t.s:Nat))∧w'.cell? ⟨b3,1,none⟩=some (.int .i64 (colAt σ.T t.s:Nat))∧w'.cell? ⟨b3,2,none⟩=some (.int .i64 (t.s:Nat)) ∧
             w'.cell? ⟨b6,0,none⟩=some (.int .i64 c.k)∧w'.cell? ⟨b6,1,none⟩=some (.int .i64 (lineAt σ.T c.s:Nat))∧w'.cell? ⟨b6,2,none⟩=some (.int .i64 (colAt σ.T c.s:Nat))∧w'.cell? ⟨b6,3,none⟩=some (.int .i64 (c.s:Nat))∧w'.cell? ⟨b6,4,none⟩=some (.int .i64 (lineAt σ.T c.e:Nat))∧w'.cell? ⟨b6,5,none⟩=some (.int .i64 (colAt σ.T c.e:Nat))∧w'.cell? ⟨b6,6,none⟩=some (.int .i64 (c.e:Nat))∧w'.cell? ⟨b6,7,none⟩=some (.string (mkS (tkTxt σ.T c))))) (by kernel_rfl) ⟨q16,q4,qs0,qs1,qs2,qk0,qk1,qk2,qk3,qk4,qk5,qk6,qk7⟩ (fun hHeld=>?_)
         refine wpAnyH_take (i:=0) (oi:=_) (v:=?vq0) rfl (by kernel_rfl) (by kernel_rfl) (by kernel_rfl) (fun _ _ _ h=>h) (Or.inl ⟨by rfl,?hq0⟩) (by assumption) ?rq0
         case hq0=>(intro w hSw;(try dsimp only at hSw);go_simp;try (with_reducible rfl))
         try simp only [Act.put,List.setIfInBounds_toArray,List.set_cons_zero,List.set_cons_succ]
         refine wpAnyH_take (i:=1) (oi:=_) (v:=?vq1) rfl (by kernel_rfl) (by kernel_rfl) (by kernel_rfl) (fun _ _ _ h=>h) (Or.inl ⟨by rfl,?hq1⟩) (by assumption) ?rq1
         case hq1=>(intro w hSw;(try dsimp only at hSw);go_simp;try (with_reducible rfl))
         try simp only [Act.put,List.setIfInBounds_toArray,List.set_cons_zero,List.set_cons_succ]
         refine wpAnyH_take (i:=2) (oi:=_) (v:=?vq2) rfl (by kernel_rfl) (by kernel_rfl) (by kernel_rfl) (fun _ _ _ h=>h) (Or.inl ⟨by rfl,?hq2⟩) (by assumption) ?rq2
         case hq2=>(intro w hSw;(try dsimp only at hSw);go_simp;try (with_reducible rfl))
         try simp only [Act.put,List.setIfInBounds_toArray,List.set_cons_zero,List.set_cons_succ]
         refine wpAnyH_take (i:=3) (oi:=_) (v:=?vq3) rfl (by kernel_rfl) (by kernel_rfl) (by kernel_rfl) (fun _ _ _ h=>h) (Or.inl ⟨by rfl,?hq3⟩) (by assumption) ?rq3
         case hq3=>(intro w hSw;(try dsimp only at hSw);go_simp;try (with_reducible rfl))
         try simp only [Act.put,List.setIfInBounds_toArray,List.set_cons_zero,List.set_cons_succ]
         refine wpAnyH_take (i:=4) (oi:=_) (v:=?vq4) rfl (by kernel_rfl) (by kernel_rfl) (by kernel_rfl) (fun _ _ _ h=>h) (Or.inl ⟨by rfl,?hq4⟩) (by assumption) ?rq4
         case hq4=>(intro w hSw;(try dsimp only at hSw);go_simp;try (with_reducible rfl))
         try simp only [Act.put,List.setIfInBounds_toArray,List.set_cons_zero,List.set_cons_succ]
         refine wpAnyH_take (i:=5) (oi:=_) (v:=?vq5) rfl (by kernel_rfl) (by kernel_rfl) (by kernel_rfl) (fun _ _ _ h=>h) (Or.inl ⟨by rfl,?hq5⟩) (by assumption) ?rq5
         case hq5=>(intro w hSw;(try dsimp only at hSw);go_simp;try (with_reducible rfl))
         try simp only [Act.put,List.setIfInBounds_toArray,List.set_cons_zero,List.set_cons_succ]
         refine wpAnyH_take (i:=6) (oi:=_) (v:=?vq6) rfl (by kernel_rfl) (by kernel_rfl) (by kernel_rfl) (fun _ _ _ h=>h) (Or.inl ⟨by rfl,?hq6⟩) (by assumption) ?rq6
         case hq6=>(intro w hSw;(try dsimp only at hSw);go_simp;try (with_reducible rfl))
         try simp only [Act.put,List.setIfInBounds_toArray,List.set_cons_zero,List.set_cons_succ]
         refine wpAnyH_take (i:=7) (oi:=_) (v:=?vq7) rfl (by kernel_rfl) (by kernel_rfl) (by kernel_rfl) (fun _ _ _ h=>h) (Or.inl ⟨by rfl,?hq7⟩) (by assumption) ?rq7
         case hq7=>(intro w hSw;(try dsimp only at hSw);go_simp;try (with_reducible rfl))
         try simp only [Act.put,List.setIfInBounds_toArray,List.set_cons_zero,List.set_cons_succ]
         refine wpAnyH_take (i:=8) (oi:=_) (v:=?vq8) rfl (by kernel_rfl) (by kernel_rfl) (by kernel_rfl) (fun _ _ _ h=>h) (Or.inl ⟨by rfl,?hq8⟩) (by assumption) ?rq8
         case hq8=>(intro w hSw;(try dsimp only at hSw);go_simp;try (with_reducible rfl))
         try simp only [Act.put,List.setIfInBounds_toArray,List.set_cons_zero,List.set_cons_succ]
         refine wpAnyH_take (i:=9) (oi:=_) (v:=?vq9) rfl (by kernel_rfl) (by kernel_rfl) (by kernel_rfl) (fun _ _ _ h=>h) (Or.inl ⟨by rfl,?hq9⟩) (by assumption) ?rq9
         case hq9=>(intro w hSw;(try dsimp only at hSw);go_simp;try (with_reducible rfl))
         try simp only [Act.put,List.setIfInBounds_toArray,List.set_cons_zero,List.set_cons_succ]
         refine wpAnyH_take (i:=10) (oi:=_) (v:=?vq10) rfl (by kernel_rfl) (by kernel_rfl) (by kernel_rfl) (fun _ _ _ h=>h) (Or.inl ⟨by rfl,?hq10⟩) (by assumption) ?rq10
         case hq10=>(intro w hSw;(try dsimp only at hSw);go_simp;try (with_reducible rfl))
         try simp only [Act.put,List.setIfInBounds_toArray,List.set_cons_zero,List.set_cons_succ]
         refine wpAnyH_take (i:=11) (oi:=_) (v:=?vq11) rfl (by kernel_rfl) (by kernel_rfl) (by kernel_rfl) (fun _ _ _ h=>h) (Or.inl ⟨by rfl,?hq11⟩) (by assumption) ?rq11
         case hq11=>(intro w hSw;(try dsimp only at hSw);go_simp;try (with_reducible rfl))
         try simp only [Act.put,List.setIfInBounds_toArray,List.set_cons_zero,List.set_cons_succ]
         refine wpAnyH_take (i:=12) (oi:=_) (v:=?vq12) rfl (by kernel_rfl) (by kernel_rfl) (by kernel_rfl) (fun _ _ _ h=>h) (Or.inl ⟨by rfl,?hq12⟩) (by assumption) ?rq12
         case hq12=>(intro w hSw;(try dsimp only at hSw);go_simp;try (with_reducible rfl))
         try simp only [Act.put,List.setIfInBounds_toArray,List.set_cons_zero,List.set_cons_succ]
         refine wpAnyH_take (i:=13) (oi:=_) (v:=?vq13) rfl (by kernel_rfl) (by kernel_rfl) (by kernel_rfl) (fun _ _ _ h=>h) (Or.inl ⟨by rfl,?hq13⟩) (by assumption) ?rq13
         case hq13=>(intro w hSw;(try dsimp only at hSw);go_simp;try (with_reducible rfl))
         try simp only [Act.put,List.setIfInBounds_toArray,List.set_cons_zero,List.set_cons_succ]
         refine wpAnyH_take (i:=14) (oi:=_) (v:=?vq14) rfl (by kernel_rfl) (by kernel_rfl) (by kernel_rfl) (fun _ _ _ h=>h) (Or.inl ⟨by rfl,?hq14⟩) (by assumption) ?rq14
         case hq14=>(intro w hSw;(try dsimp only at hSw);go_simp;try (with_reducible rfl))
         try simp only [Act.put,List.setIfInBounds_toArray,List.set_cons_zero,List.set_cons_succ]
         refine wpAnyH_ready (rs:=[15]) (by kernel_rfl) (by simp) ?_
         refine AllReadyH.cons (o:=_) rfl (fun K hK=>?_) AllReadyH.nil
         go_simp
         go_fit HM2.out
         unfold Panics panicE
         rintro e w5 ⟨rfl,hk5,hc5⟩
         exact ⟨rfl,HFIN.out w5 hk5 hc5⟩
       · have HM2:=hide (HM.out.mono (fun e w5 x=>x.elim (fun x=>x) (fun x=>by cases x.1)))
         clear HM
         have tokA:True:=trivial
         change Code.wp _ (Code.region _ #[_,_,_,_,_,_,_,_,_,_,id _,_,_,_,_,_,_,_,_,_,_,_] _) _ _ _
         go_region_held3 (fun w'=>w'.cell? ⟨σ.B,16,none⟩=some (.pointer (some ⟨F,0,none⟩)) ∧
             w'.cell? ⟨b3,0,none⟩=some (.int .i64 (lineAt σ.T t.s:Nat))∧w'.cell? ⟨b3,1,none⟩=some (.int .i64 (colAt σ.T t.s:Nat))∧w'.cell? ⟨b3,2,none⟩=some (.int .i64 (t.s:Nat)) ∧
             w'.cell? ⟨b6,0,none⟩=some (.int .i64 c.k)∧w'.cell? ⟨b6,1,none⟩=some (.int .i64 (lineAt σ.T c.s:Nat))∧w'.cell? ⟨b6,2,none⟩=some (.int .i64 (colAt σ.T c.s:Nat))∧w'.cell? ⟨b6,3,none⟩=some (.int .i64 (c.s:Nat))∧w'.cell? ⟨b6,4,none⟩=some (.int .i64 (lineAt σ.T c.e:Nat))∧w'.cell? ⟨b6,5,none⟩=some (.int .i64 (colAt σ.T c.e:Nat))∧w'.cell? ⟨b6,6,none⟩=some (.int .i64 (c.e:Nat))∧w'.cell? ⟨b6,7,none⟩=some (.string (mkS (tkTxt σ.T c))))
           (go_keep)
           (first
             | (have _t:=tokA;go_fit HM2.out;clear tokA;rintro e w5 ⟨X,lv,rb,cms,y1,y2,y3,Ls,Q,tn,rest',hr5,rfl,hX5,hat5,hPQ,hQ5,hb5,hl5,hn5,hc5,hp5,hi5,ho5,hk5⟩;have k5:=((Ku.refl N (LexP P) Wv).drew).trans hk5;have hF5:=HFb.out.keptU k5 (by simp [LexP]);have hfo5:=ownsRow_keptU HFo.out k5 (by simp [LexP]);have hp35:=Hpos.out.keptU k5 (by simp [LexP]);have hb65:=Hb6.out.keptU k5 (by simp [LexP]);obtain ⟨csB5,hBB5,hB165,_,_⟩:=hat5.blk;rw [HFI.out] at hB165;have v16:w5.cell? ⟨σ.B,16,none⟩=some (.pointer (some ⟨F,0,none⟩)):=hBB5.cell 16 hB165;have v4:w5.cell? ⟨F,4,none⟩=some fv:=hF5.cell 4 rfl;have v0:w5.cell? ⟨b3,0,none⟩=some (.int .i64 (lineAt σ.T t.s:Nat)):=hp35.cell 0 rfl;have v1:w5.cell? ⟨b3,1,none⟩=some (.int .i64 (colAt σ.T t.s:Nat)):=hp35.cell 1 rfl;have v2:w5.cell? ⟨b3,2,none⟩=some (.int .i64 (t.s:Nat)):=hp35.cell 2 rfl;have k0:w5.cell? ⟨b6,0,none⟩=some (.int .i64 c.k):=hb65.cell 0 rfl;have k1:w5.cell? ⟨b6,1,none⟩=some (.int .i64 (lineAt σ.T c.s:Nat)):=hb65.cell 1 rfl;have k2:w5.cell? ⟨b6,2,none⟩=some (.int .i64 (colAt σ.T c.s:Nat)):=hb65.cell 2 rfl;have k3:w5.cell? ⟨b6,3,none⟩=some (.int .i64 (c.s:Nat)):=hb65.cell 3 rfl;have k4:w5.cell? ⟨b6,4,none⟩=some (.int .i64 (lineAt σ.T c.e:Nat)):=hb65.cell 4 rfl;have k5':w5.cell? ⟨b6,5,none⟩=some (.int .i64 (colAt σ.T c.e:Nat)):=hb65.cell 5 rfl;have k6:w5.cell? ⟨b6,6,none⟩=some (.int .i64 (c.e:Nat)):=hb65.cell 6 rfl;have k7:w5.cell? ⟨b6,7,none⟩=some (.string (mkS (tkTxt σ.T c))):=hb65.cell 7 rfl;have n16:=World.new_ne w5 _ v16;have n0:=World.new_ne w5 _ v0;have n6:=World.new_ne w5 _ k0;have n4:=World.new_ne w5 _ v4;simp only at n16 n0 n6 n4;have n4':=n4.symm;have l5:=World.block_lt_of_cell? w5 _ v4;simp only at l5;have hF5':=hide hF5;have hfo5':=hide hfo5;have HP35:=hide hp35;have HB65:=hide hb65;have HBB5:=hide (And.intro hBB5 hB165);have HK5:=hide k5;have HS5:=hide (And.intro hr5 (And.intro hX5 (And.intro hat5 (And.intro hPQ (And.intro hQ5 (And.intro hb5 (And.intro hl5 (And.intro hn5 (And.intro hc5 (And.intro hp5 (And.intro hi5 ho5)))))))))));clear hF5 hfo5 hp35 hb65 hBB5 hB165 k5 hk5 hr5 hX5 hat5 hPQ hQ5 hb5 hl5 hn5 hc5 hp5 hi5 ho5)
             | (have _t:=hfo5';refine step_append_lies _ (by rfl) _ _ _ (by rfl) N 131 i1 _ 1 16 Tryz.und_exprs hi1 hy0 hy1 hy2 rfl (by omega) fv xs.length xs (by rfl) (by repeat (first | exact hfo5'.out | apply World.ownsRow.alloc | apply World.ownsRow.drew)) ⟨w5.heap.size,0,none⟩ 1 1 [lbV X] (by rfl) (by rfl) (news_one _ _ _) (by simp [Value.oneCell',lbV]) (by omega) hm1 hm2 (by have:=HK5.out.size;simp;omega) (w5.heap.size+1) (by simp) ?_;intro gg cap w7 hown7 hgrow7 hat7 hlt7;have k7x:Ku N (fun _ u=>u=131) w5 w7:=((Ku.refl N (fun _ u=>u=131) w5).alloc (by have:=HK5.out.size;omega) _).trans (Ku.of_append (hfo5'.out.alloc _) hgrow7 (by have:=HK5.out.size;simp;omega) (fun _ _=>rfl));have rF:=hF5'.out.keptU k7x (by decide);have rfr:∀ j,w7.frozen? ⟨F,j,none⟩=false:=fun j=>rF.free j;have x4:w7.cell? ⟨F,4,none⟩=some fv:=rF.cell 4 rfl;have x16:w7.cell? ⟨σ.B,16,none⟩=some (.pointer (some ⟨F,0,none⟩)):=(HBB5.out.1.keptU k7x (by decide)).cell 16 HBB5.out.2;have rp:=HP35.out.keptU k7x (by decide);have rb':=HB65.out.keptU k7x (by decide);have z0:w7.cell? ⟨b3,0,none⟩=some (.int .i64 (lineAt σ.T t.s:Nat)):=rp.cell 0 rfl;have z1:w7.cell? ⟨b3,1,none⟩=some (.int .i64 (colAt σ.T t.s:Nat)):=rp.cell 1 rfl;have z2:w7.cell? ⟨b3,2,none⟩=some (.int .i64 (t.s:Nat)):=rp.cell 2 rfl;have m0:w7.cell? ⟨b6,0,none⟩=some (.int .i64 c.k):=rb'.cell 0 rfl;have m1:w7.cell? ⟨b6,1,none⟩=some (.int .i64 (lineAt σ.T c.s:Nat)):=rb'.cell 1 rfl;have m2':w7.cell? ⟨b6,2,none⟩=some (.int .i64 (colAt σ.T c.s:Nat)):=rb'.cell 2 rfl;have m3':w7.cell? ⟨b6,3,none⟩=some (.int .i64 (c.s:Nat)):=rb'.cell 3 rfl;have m4:w7.cell? ⟨b6,4,none⟩=some (.int .i64 (lineAt σ.T c.e:Nat)):=rb'.cell 4 rfl;have m5:w7.cell? ⟨b6,5,none⟩=some (.int .i64 (colAt σ.T c.e:Nat)):=rb'.cell 5 rfl;have m6:w7.cell? ⟨b6,6,none⟩=some (.int .i64 (c.e:Nat)):=rb'.cell 6 rfl;have m7:w7.cell? ⟨b6,7,none⟩=some (.string (mkS (tkTxt σ.T c))):=rb'.cell 7 rfl;have HKX:=hide k7x;have HOWN7:=hide hown7;have HRF:=hide rF;clear hown7 hgrow7 hat7 hlt7 k7x rF rp rb'))
         all_goals go_wp2_with fail
         all_goals go_returns
         all_goals
           obtain ⟨hr5,hX5,hat5,hPQ,hQ5,hb5,hl5,hn5,hc5,hp5,hi5,ho5⟩:=HS5.out
           have hw5:w.heap.size≤w5.heap.size:=Nat.le_trans hwv HK5.out.size
           have kend:Ku N (fun _ u=>u=129∨u=131) w5 (w7.setCell ⟨F,4,none⟩ (.slice (some ⟨gg,0,none⟩) (xs.length+1) cap)):=by
             refine Ku.set_blk ?_ hNF hF5'.out (Or.inl rfl)
             exact HKX.out.mono (fun _ _ h=>Or.inr h)
           have kf:Ku N (fun _ u=>u=129) w7 (w7.setCell ⟨F,4,none⟩ (.slice (some ⟨gg,0,none⟩) (xs.length+1) cap)):=by
             refine Ku.set_blk ?_ hNF HRF.out rfl
             exact Ku.refl _ _ _
           have hto5:=ownsRow_keptU HTo.out HK5.out (by simp [LexP])
           refine Or.inl ⟨X,Ls,Q,tn,rest',hr5,rfl,Nat.le_trans hwv hX5,hat5.keptU kend (by decide) (by decide) (fun g x=>by rcases x with x | x <;> exact absurd x (by decide)),hPQ,fun k hk=>Nat.lt_of_lt_of_le (hQ5 k hk) kend.size,
             ((HKt.out.trans HK5.out).mono (fun _ _ x=>Or.inl x)).trans (kend.mono (fun _ _ x=>Or.inr x)),
             ⟨_,_,_,_,_,_,_,_,_,_,_,_,_,(hb5.keptU kend (by decide)).eq (lb0 _ _ _ _ _ _ _ _ _ _ _ _),own_low (ownsRow_keptU hto5 kend (fun _ _=>by decide)) hNw,own_low (ownsRow_keptU hl5 kend (fun _ _=>by decide)) (Nat.le_trans hNw hwv),hn5.keptU kend (fun _=>by decide) (fun _=>by decide) (fun _ _=>by decide) (fun _ x=>x),hc5.keptU kend (fun _ _=>by decide),hp5,hi5⟩,
             fun L hL=>Nat.le_trans hwv (ho5 L hL),_,HRF.out.set 4 _,?_⟩
           have:=ownsRow_keptU HOWN7.out kf (fun _ _=>by decide)
           simpa using this
   · have hcw:NonE c∧c.k≠40:=by
       have h1:=HGK.out
       have h2:=HRC.out
       cases rest with
       | nil=>simp at h1;omega
       | cons u rest' =>
         simp at h2
         exact h2.1 ▸ HW.out u (by rw [HPR.out];simp)
     have f40:(c.k == 40)=false:=by rw [beq_eq_false_iff_ne];exact hcw.2
     have HCW:=hide hcw.1
     have HO2:=hide hto
     have HP2:=hide hpos
     have HP22:=hide hpos2
     clear hcw hto hpos hpos2
     have hpl:pre.length≤1000000:=by have:=congrArg List.length HPR.out;simp at this;omega
     go_wp2_with fail
     refine (isEOL_no' c HCW.out _).mono ?_
     rintro e w' ⟨rfl,rfl⟩
     have hm1:pre.length+1+1≤maxLen:=by unfold maxLen;omega
     have hm2:(pre.length+1+1) * 16≤140737488355328:=by omega
     have hm3:∀ (a b:Obj),w.heap.size≤((w2.alloc a).alloc b).heap.size:=fun a b=>by simp;omega
     have hm4:∀ (a b:Obj),((w2.alloc a).alloc b).heap.size=w2.heap.size+1+1:=fun a b=>by simp
     have hm5:∀ u ∈ [Value.string (mkS (tkTxt σ.T c))],u.oneCell'=true:=by simp [Value.oneCell']
     have M:=hide (And.intro hm1 (And.intro hm2 (And.intro hm3 (And.intro hm4 hm5))))
     clear hm1 hm2 hm3 hm4 hm5
     go_wp2_with (at_builtin;refine wpList_append_lies _ rfl _ _ _ rfl w.heap.size 9 i0 _ 1 16 Tryz.und_strs hi0 hz0 hz1 hz2 rfl (by omega) _ _ _ (by rfl) ((HO2.out.alloc _).alloc _) ⟨w2.heap.size+1,0,none⟩ 1 1 [.string (mkS (tkTxt σ.T c))] (by rfl) (by rfl) (news_two _ _ _ _) M.out.2.2.2.2 (by omega) M.out.1 M.out.2.1 (M.out.2.2.1 _ _) (w2.heap.size+1+1) (M.out.2.2.2.1 _ _) ?_;intro g cap w3 hown3 hgrow3 hat3 hlt3;obtain ⟨hk3,ht3,hp3⟩:=pl_append HO2.out hwsz hgrow3 HP22.out;clear hgrow3 hat3 hlt3;have e4:w3.cell? ⟨w2.heap.size,4,none⟩=some (.int .i64 (lineAt σ.T c.e:Nat)):=ht3.cell 4 rfl;have e5:w3.cell? ⟨w2.heap.size,5,none⟩=some (.int .i64 (colAt σ.T c.e:Nat)):=ht3.cell 5 rfl;have e6:w3.cell? ⟨w2.heap.size,6,none⟩=some (.int .i64 (c.e:Nat)):=ht3.cell 6 rfl;have p0:w3.cell? ⟨b3+1,0,none⟩=some (.int .i64 (lineAt σ.T (lastTk t pre).e:Nat)):=hp3.cell 0 rfl;have p1:w3.cell? ⟨b3+1,1,none⟩=some (.int .i64 (colAt σ.T (lastTk t pre).e:Nat)):=hp3.cell 1 rfl;have p2:w3.cell? ⟨b3+1,2,none⟩=some (.int .i64 ((lastTk t pre).e:Nat)):=hp3.cell 2 rfl;have pf:∀ j,w3.frozen? ⟨b3+1,j,none⟩=false:=fun j=>hp3.free j;have HP3:=hide hp3;have HK3:=hide hk3;have HOWN3:=hide hown3;clear hp3 hk3 hown3 ht3)
     go_roundg (gk - 1)
     case measure=>omega
     case rel =>
       have hr:∃ rest',rest=c :: rest'∧rest'++tl=d :: ds:=by
         have h1:=HGK.out
         have h2:=HRC.out
         cases rest with
         | nil=>simp at h1;omega
         | cons u rest' =>
           simp only [List.cons_append,List.cons.injEq] at h2
           exact ⟨rest',by rw [h2.1],h2.2⟩
       obtain ⟨rest',hr1,hr2⟩:=hr
       have hN2:w.heap.size≤b3+1:=by omega
       have kall:Ku w.heap.size (fun _ u=>u=9∨u=134) w2 (((w3.setCell ⟨b3+1,0,none⟩ (Value.int IntKind.i64 ↑(lineAt σ.T c.e))).setCell ⟨b3+1,1,none⟩ (Value.int IntKind.i64 ↑(colAt σ.T c.e))).setCell ⟨b3+1,2,none⟩ (Value.int IntKind.i64 ↑c.e)) :=
         by
           refine Ku.set_blk ?_ hN2 HP22.out (Or.inr rfl)
           refine Ku.set_blk ?_ hN2 HP22.out (Or.inr rfl)
           refine Ku.set_blk ?_ hN2 HP22.out (Or.inr rfl)
           exact HK3.out.mono (fun _ _ h=>Or.inl h)
       have k3:Ku w.heap.size (fun _ u=>u=134) w3 (((w3.setCell ⟨b3+1,0,none⟩ (Value.int IntKind.i64 ↑(lineAt σ.T c.e))).setCell ⟨b3+1,1,none⟩ (Value.int IntKind.i64 ↑(colAt σ.T c.e))).setCell ⟨b3+1,2,none⟩ (Value.int IntKind.i64 ↑c.e)) :=
         by
           refine Ku.set_blk ?_ hN2 HP3.out rfl
           refine Ku.set_blk ?_ hN2 HP3.out rfl
           refine Ku.set_blk ?_ hN2 HP3.out rfl
           exact Ku.refl _ _ _
       have hl:lastTk t (pre++[c])=c:=by simp [lastTk]
       have klow:Ku N (LexP P) w (((w3.setCell ⟨b3+1,0,none⟩ (Value.int IntKind.i64 ↑(lineAt σ.T c.e))).setCell ⟨b3+1,1,none⟩ (Value.int IntKind.i64 ↑(colAt σ.T c.e))).setCell ⟨b3+1,2,none⟩ (Value.int IntKind.i64 ↑c.e)):=by
         have k4:=HK.out.trans HK2.out
         exact ⟨k4.below.trans (kall.below.mono hNw),fun i ds' u fz e hn=>(kall.below.block i (Array.getElem?_eq_some_iff.1 e).1).trans (k4.keep i ds' u fz e hn)⟩
       refine hide ⟨pre++[c],rest',d,ds,by rw [HPR.out,hr1];simp,by have:=HGK.out;rw [hr1] at this;simp at this;omega,hr2,HA2.out.keptU kall (by decide) (by decide) (fun g e=>absurd e (by decide)),?_,?_,?_,klow,HF3.out.keptU kall (by decide) (fun _=>by decide)⟩
       · have:=HP2.out.keptU HK3.out (by decide)
         exact ((this.set_other (by simp) _).set_other (by simp) _).set_other (by simp) _
       · rw [hl]
         exact ((HP3.out.set 0 _).set 1 _).set 2 _
       · have:=ownsRow_keptU HOWN3.out k3 (fun _ _=>by decide)
         simpa [tvals] using this
end
end Go.Proofs.YtifkpibjeamfkaaGreatFmt
