/-
  impl.Parse at a content's text with a line behind it that is one too many: an error.
  The law on repeated lines.
-/
import Derived.Test.YtifkpibjeamfkaaGreatFmtZ49
import Derived.Test.YtifkpibjeamfkaaGreatFmtZ45
import Derived.Test.YtifkpibjeamfkaaGreatFmtZ50
set_option linter.unusedVariables false
set_option linter.unusedSimpArgs false
set_option maxRecDepth 100000
namespace Go.Proofs.YtifkpibjeamfkaaGreatFmt
section
open Go.RowKit Go.Proofs
structure TabW (w:World) (fb fa:Nat→Int):Prop where
 pr:PrTab w
 big:0 < w.heap.size
 sp:OpTab w 2 fb
 sl:2 < w.heap.size
 sa:OpTab w 4 fa
 al:4 < w.heap.size
 fa:∀ c,0≤fa c∧fa c < 256
theorem TabW.below {w w':World} {fb fa:Nat→Int} (h:TabW w fb fa) (k:Below w.heap.size w w'):TabW w' fb fa :=
 ⟨h.pr.below k h.big,Nat.lt_of_lt_of_le h.big k.size,h.sp.below k h.sl,Nat.lt_of_lt_of_le h.sl k.size,h.sa.below k h.al,Nat.lt_of_lt_of_le h.al k.size,h.fa⟩
def BadT (T:List UInt8) (fb:Nat→Int):Prop :=
 ∃ c cs ss b,TokG fb T 0 c∧ChainG fb T c cs∧FileP (c :: cs) ss b∧(ss≠[]∨b=false)∧cs.length≤800000∧T.length≤800000∧(∀ s ∈ ss.map (Stm.tx T),ClassS s)∧(b=true→∀ m g n,Prog (ss.map (Stm.tx T)) m g n→0 < n)
theorem mfParse_g (w:World) (D C:Nat) (T:List UInt8) (nm:ByteArray) (fb fa:Nat→Int) (h:TxtAt w D C T) (hb:BadT T fb) (ht:TabW w fb fa) :
   Calls Tryz.prog 37 #[.string nm,.slice (some ⟨D,0,none⟩) T.length C,.nilFunc] w fun e w'=>(∃ t v,e=.returned (.tuple #[.pointer none,.iface t v]))∧Below w.heap.size w w':=by
 obtain ⟨c,cs,ss,b,h1,h2,h3,h4,h5,h6,h7,h8⟩:=hb
 have HC:=hide (ptf_any w D C T nm fb fa c cs ss b h h1 h2 h3 h4 h5 h6 ht.pr ht.sp ht.big ht.sl ht.sa ht.al ht.fa h7 h8)
 clear h h1 h2 h3 h4 h7 h8 ht
 go_enter Tryz.func37,Tryz.ntmps37
 go_wp2_with fail
 go_fit HC.out
 rintro e w1 ⟨⟨t,v,rfl⟩,hb⟩
 have HB:=hide hb
 clear hb
 go_wp2_with fail
 go_returns
 exact ⟨⟨t,v,rfl⟩,HB.out⟩
set_option maxHeartbeats 2000000 in
theorem implParse_g (w:World) (t:ByteArray) (T:List UInt8) (fb fa:Nat→Int) (ht:Asc t T) (hbd:BadT T fb) (htb:TabW w fb fa) :
   Calls Tryz.prog 13 #[.string t] w fun e w'=>e=.returned (.tuple #[contentV ⟨#[]⟩,.bool false])∧Below w.heap.size w w':=by
 have kc:=fun (W:World)=>Lib.run_convert_string_bytes (P:=Tryz.prog) W 9 69 5 t (u:=.string) (by kernel_rfl) (by kernel_rfl) (by kernel_rfl)
 have HT:=hide ht
 have HX:=hide hbd
 have HP:=hide htb
 clear ht hbd htb
 go_enter Tryz.func13,Tryz.ntmps13
 go_wp2_with fail
 have htx:=HT.out.txt (w.alloc (Obj.cells contentZ 28))
 have hbb:=bytesWorld_below' (w.alloc (Obj.cells contentZ 28)) 5 t
 have bC:=(Blk.new w 28 contentZ).kept (Kp.of_below (X:=fun _=>False) hbb) (fun h=>h)
 have hb2:Below w.heap.size w (Lib.bytesWorld (w.alloc (Obj.cells contentZ 28)) 5 t):=((Below.refl _ w).alloc (Nat.le_refl _) _).trans (hbb.mono (by simp))
 rw [show (w.alloc (Obj.cells contentZ 28)).heap.size=w.heap.size+1 from by simp] at htx
 clear hbb
 unfold contentZ at htx bC hb2
 generalize grownCap (w.alloc (Obj.cells #[.string ⟨#[]⟩,.string ⟨#[]⟩,.string ⟨#[]⟩,.slice none 0 0,.slice none 0 0,.slice none 0 0,.slice none 0 0,.slice none 0 0,.slice none 0 0] 28)) t.size 0 5=C at htx ⊢
 generalize Lib.bytesWorld (w.alloc (Obj.cells #[.string ⟨#[]⟩,.string ⟨#[]⟩,.string ⟨#[]⟩,.slice none 0 0,.slice none 0 0,.slice none 0 0,.slice none 0 0,.slice none 0 0,.slice none 0 0] 28)) 5 t=W2 at htx bC hb2 ⊢
 have hsz:=HT.out.size
 rw [hsz]
 clear hsz
 go_fit (mfParse_g W2 (w.heap.size+1) C T ⟨#[103,111,46,109,111,100]⟩ fb fa htx HX.out (HP.out.below hb2))
 rintro e w4 ⟨⟨et,ev,rfl⟩,hb3⟩
 have bC4:=bC.kept (Kp.of_below (X:=fun _=>False) hb3) (fun h=>h)
 have HB4:=hide (hb2.trans (hb3.mono hb2.size))
 have p0:w4.cell? ⟨w.heap.size,0,none⟩=some (.string ⟨#[]⟩):=bC4.cell 0 rfl
 have p1:w4.cell? ⟨w.heap.size,1,none⟩=some (.string ⟨#[]⟩):=bC4.cell 1 rfl
 have p2:w4.cell? ⟨w.heap.size,2,none⟩=some (.string ⟨#[]⟩):=bC4.cell 2 rfl
 have p3:w4.cell? ⟨w.heap.size,3,none⟩=some (.slice none 0 0):=bC4.cell 3 rfl
 have p4:w4.cell? ⟨w.heap.size,4,none⟩=some (.slice none 0 0):=bC4.cell 4 rfl
 have p5:w4.cell? ⟨w.heap.size,5,none⟩=some (.slice none 0 0):=bC4.cell 5 rfl
 have p6:w4.cell? ⟨w.heap.size,6,none⟩=some (.slice none 0 0):=bC4.cell 6 rfl
 have p7:w4.cell? ⟨w.heap.size,7,none⟩=some (.slice none 0 0):=bC4.cell 7 rfl
 have p8:w4.cell? ⟨w.heap.size,8,none⟩=some (.slice none 0 0):=bC4.cell 8 rfl
 have fC4:∀ j,w4.frozen? ⟨w.heap.size,j,none⟩=false:=fun j=>bC4.free j
 have BC4:=hide bC4
 clear htx bC hb2 hb3 bC4
 go_wp2_with fail
 refine (show ∀ W5:World,Blk W5 w.heap.size 28 #[.string ⟨#[]⟩,.string ⟨#[]⟩,.string ⟨#[]⟩,.slice none 0 0,.slice none 0 0,.slice none 0 0,.slice none 0 0,.slice none 0 0,.slice none 0 0]→Below w.heap.size w W5→bodyPost Tryz.prog _ _ Exit.ret _ W5 from fun W5 b5 hb5=>?_) _
   ((((((((((BC4.out.set 0 (.string ⟨#[]⟩)).set 1 (.string ⟨#[]⟩)).set 2 (.string ⟨#[]⟩)).set 3 (.slice none 0 0)).set 4 (.slice none 0 0)).set 5 (.slice none 0 0)).set 6 (.slice none 0 0)).set 7 (.slice none 0 0)).set 8 (.slice none 0 0)).eq (by simp))
   (((((((((HB4.out.setCell (Nat.le_refl _) _).setCell (Nat.le_refl _) _).setCell (Nat.le_refl _) _).setCell (Nat.le_refl _) _).setCell (Nat.le_refl _) _).setCell (Nat.le_refl _) _).setCell (Nat.le_refl _) _).setCell (Nat.le_refl _) _).setCell (Nat.le_refl _) _)
 have q1:W5.cell? ⟨w.heap.size,1,none⟩=some (.string ⟨#[]⟩):=b5.cell 1 rfl
 have q2:W5.cell? ⟨w.heap.size,2,none⟩=some (.string ⟨#[]⟩):=b5.cell 2 rfl
 have q3:W5.cell? ⟨w.heap.size,3,none⟩=some (.slice none 0 0):=b5.cell 3 rfl
 have q4:W5.cell? ⟨w.heap.size,4,none⟩=some (.slice none 0 0):=b5.cell 4 rfl
 have q5:W5.cell? ⟨w.heap.size,5,none⟩=some (.slice none 0 0):=b5.cell 5 rfl
 have q6:W5.cell? ⟨w.heap.size,6,none⟩=some (.slice none 0 0):=b5.cell 6 rfl
 have q7:W5.cell? ⟨w.heap.size,7,none⟩=some (.slice none 0 0):=b5.cell 7 rfl
 have q8:W5.cell? ⟨w.heap.size,8,none⟩=some (.slice none 0 0):=b5.cell 8 rfl
 have q0:W5.cell? ⟨w.heap.size,0,none⟩=some (.string ⟨#[]⟩):=b5.cell 0 rfl
 exact bodyPost_ret (v:=.tuple #[contentV ⟨#[]⟩,.bool false]) (by simp [results,Tryz.results13,go_sem,contentV,q0,q1,q2,q3,q4,q5,q6,q7,q8]) rfl ⟨rfl,hb5⟩
theorem bad_doc (fb:Nat→Int) (c:Cont) (blk:Bool) (hc:ContF c) {tv tp:List UInt8} (ht:TailC tv tp) (hv:WdG tv) (hvl:tv.length≤9) (hp:NiceL tp) (h:tv=moW∨(tv=goW∧c.go≠[])):BadT (docG (docOf c blk tv tp)) fb:=by
 obtain ⟨t,ts,st,b,h1,h2,h3,h4,h5,s1,s2,h6,h7,h8⟩:=doc_reads fb c blk hc ht hv hvl hp
 have hcl1:ClassS (.line moW [c.mod]):=LineC.module _ hc.mod
 have hcl2:∀ s ∈ s1,ClassS s:=by
   rw [h7]
   split
   · simp
   · rename_i hg
     intro s hs
     simp only [List.mem_singleton] at hs
     subst hs
     exact LineC.go _ (hc.go.resolve_left hg)
 refine ⟨t,ts,st,b,h1,h2,h3,Or.inl ?_,h4,h5,?_,?_⟩
 · rintro rfl
   cases h6
 · rw [h6]
   intro s hs
   rcases List.mem_cons.1 hs with rfl | hs
   · exact hcl1
   · rcases List.mem_append.1 hs with hs | hs
     · exact hcl2 s hs
     · exact h8.1 s hs
 · rintro rfl m g n hp
   rw [h6] at hp
   rcases h with rfl | ⟨rfl,hg⟩
   · exact prog_mod h8 hp
   · rw [h7,if_neg hg] at hp
     exact prog_go h8 hp
theorem implParse_two (w:World) (t:ByteArray) (fb fa:Nat→Int) (c:Cont) (blk:Bool) (hc:ContF c) {tv tp:List UInt8} (ht:TailC tv tp) (hv:WdG tv) (hvl:tv.length≤9) (hp:NiceL tp) (h:tv=moW∨(tv=goW∧c.go≠[])) (he:bsl t=docG (docOf c blk tv tp)) (htb:TabW w fb fa) :
   Calls Tryz.prog 13 #[.string t] w fun e w'=>e=.returned (.tuple #[contentV ⟨#[]⟩,.bool false])∧Below w.heap.size w w' :=
 implParse_g w t _ fb fa (Asc.of he (docOf_asc c blk hc hv hp) (by have:=doc_len c blk hc hvl hp;omega)) (bad_doc fb c blk hc ht hv hvl hp h) htb
end
section
open Go.RowKit Go.Proofs
theorem nice12:NiceL [49,46,50]:=nice_of _ (by decide) (by decide) (by decide)
theorem ContF.setGo {c:Cont} (h:ContF c) {g:List UInt8} (hg:NiceL g):ContF { c with go:=g } :=
 ⟨h.mod,Or.inr hg,h.tc,h.reqs,h.excs,h.reps,h.rets,h.tools,h.igns,h.n1,h.n2,h.n3,h.n4,h.n5,h.n6⟩
theorem ContV.setGo {w:World} {c:Cont} {v1 v2 v3 v4 v5 v6:Value} (h:ContV w c v1 v2 v3 v4 v5 v6) (g:List UInt8):ContV w { c with go:=g } v1 v2 v3 v4 v5 v6:=⟨h.r1,h.r2,h.r3,h.r4,h.r5,h.r6⟩
theorem text_len {c:Cont} {blk:Bool} (hc:ContF c) {tv tp:List UInt8} (ht:tv.length≤9) (hp:NiceL tp):(joinS (listS c blk)).length≤700000:=by
 have:=doc_len c blk hc ht hp
 rw [text_doc] at this
 simp only [List.length_append] at this
 omega
set_option maxHeartbeats 8000000 in
theorem law_rep (c:Cont) (blk:Bool) (p q:ByteArray) (v1 v2 v3 v4 v5 v6:Value) (w:World) (fb fa:Nat→Int) (hv:ContV w c v1 v2 v3 v4 v5 v6) (htb:TabW w fb fa) :
   Calls Tryz.prog 3 #[contV' c v1 v2 v3 v4 v5 v6,.bool blk,.string p,.string q] w fun e w'=>e=.returned (.bool true)∧Below w.heap.size w w':=by
 have HB0:=hide ((Below.refl w.heap.size w).alloc (Nat.le_refl _) (Obj.cells (contC c v1 v2 v3 v4 v5 v6) 28))
 have HK0:=hide (Blk.new w 28 (contC c v1 v2 v3 v4 v5 v6))
 have HV:=hide hv
 have HT:=hide htb
 clear hv htb
 unfold contC at HB0 HK0
 go_enter Tryz.func3,Tryz.ntmps3
 go_upto_region 1 with fail
 generalize hW:w.alloc (Obj.cells #[.string (mkS c.mod),.string (mkS c.go),.string (mkS c.tc),v1,v2,v3,v4,v5,v6] 28)=W at HB0 HK0 ⊢
 clear hW
 have k0:W.cell? ⟨w.heap.size,0,none⟩=some (.string (mkS c.mod)):=HK0.out.cell 0 rfl
 have k1:W.cell? ⟨w.heap.size,1,none⟩=some (.string (mkS c.go)):=HK0.out.cell 1 rfl
 have k2:W.cell? ⟨w.heap.size,2,none⟩=some (.string (mkS c.tc)):=HK0.out.cell 2 rfl
 have k3:W.cell? ⟨w.heap.size,3,none⟩=some v1:=HK0.out.cell 3 rfl
 have k4:W.cell? ⟨w.heap.size,4,none⟩=some v2:=HK0.out.cell 4 rfl
 have k5:W.cell? ⟨w.heap.size,5,none⟩=some v3:=HK0.out.cell 5 rfl
 have k6:W.cell? ⟨w.heap.size,6,none⟩=some v4:=HK0.out.cell 6 rfl
 have k7:W.cell? ⟨w.heap.size,7,none⟩=some v5:=HK0.out.cell 7 rfl
 have k8:W.cell? ⟨w.heap.size,8,none⟩=some v6:=HK0.out.cell 8 rfl
 have HF:=hide (zzFits1_any c v1 v2 v3 v4 v5 v6 W (HV.out.below HB0.out))
 unfold contV' at HF
 go_wp2_with fail
 go_fit HF.out
 rintro e w1 ⟨⟨b,rfl,hb⟩,hw1⟩
 have HB1:=hide (HB0.out.trans (hw1.mono HB0.out.size))
 have HK1:=hide (HK0.out.kept (Kp.of_below (X:=fun _=>False) hw1) (fun h=>h))
 have HQ1:=hide hb
 clear hb hw1 HF k0 k1 k2 k3 k4 k5 k6 k7 k8
 have k0:w1.cell? ⟨w.heap.size,0,none⟩=some (.string (mkS c.mod)):=HK1.out.cell 0 rfl
 have k1:w1.cell? ⟨w.heap.size,1,none⟩=some (.string (mkS c.go)):=HK1.out.cell 1 rfl
 have k2:w1.cell? ⟨w.heap.size,2,none⟩=some (.string (mkS c.tc)):=HK1.out.cell 2 rfl
 have k3:w1.cell? ⟨w.heap.size,3,none⟩=some v1:=HK1.out.cell 3 rfl
 have k4:w1.cell? ⟨w.heap.size,4,none⟩=some v2:=HK1.out.cell 4 rfl
 have k5:w1.cell? ⟨w.heap.size,5,none⟩=some v3:=HK1.out.cell 5 rfl
 have k6:w1.cell? ⟨w.heap.size,6,none⟩=some v4:=HK1.out.cell 6 rfl
 have k7:w1.cell? ⟨w.heap.size,7,none⟩=some v5:=HK1.out.cell 7 rfl
 have k8:w1.cell? ⟨w.heap.size,8,none⟩=some v6:=HK1.out.cell 8 rfl
 cases b with
 | false =>
   go_wp2_with fail
   go_ret
   exact ⟨rfl,HB1.out⟩
 | true =>
 have HFC:=hide (HQ1.out rfl)
 by_cases hszp:(2147483647:Int) < (p.size:Int)
 · go_wp2_with fail
   go_ret
   exact ⟨rfl,HB1.out⟩
 by_cases hszq:(2147483647:Int) < (q.size:Int)
 · go_wp2_with fail
   go_ret
   exact ⟨rfl,HB1.out⟩
 have hpz:p.size≤2147483647:=by omega
 have hqz:q.size≤2147483647:=by omega
 have HC:=hide (contentOk_any c v1 v2 v3 v4 v5 v6 w1 (HV.out.below HB1.out) HFC.out)
 unfold contV' at HC
 have hrd:∀ W',Below w.heap.size w W'→Calls Tryz.prog 11 #[] W' fun e w'=>e=.returned (.bool true)∧Below W'.heap.size W' w':=fun W' hb=>by
   have h:=HT.out.below hb
   exact reads_any W' h.pr h.big
 have HRD:=hide hrd
 clear hrd
 go_wp2_with fail
 go_fit HC.out
 rintro e w2 ⟨⟨b,rfl,hb⟩,hw2⟩
 have HB2:=hide (HB1.out.trans (hw2.mono HB1.out.size))
 have HK2:=hide (HK1.out.kept (Kp.of_below (X:=fun _=>False) hw2) (fun h=>h))
 have HQ2:=hide hb
 clear hb hw2 HC k0 k1 k2 k3 k4 k5 k6 k7 k8
 cases b with
 | false =>
   go_wp2_with fail
   go_fit (HRD.out _ HB2.out)
   rintro e w3 ⟨rfl,hb3⟩
   have HB3:=hide (HB2.out.trans (hb3.mono HB2.out.size))
   clear hb3
   go_wp2_with fail
   go_ret
   exact ⟨rfl,HB3.out⟩
 | true =>
 have HCF:=hide (HQ2.out rfl)
 go_wp2_with fail
 refine (pathOk_any p _ hpz).mono ?_
 rintro e w3 ⟨⟨b,rfl,hb⟩,hw3⟩
 have HB3:=hide (HB2.out.trans (hw3.mono HB2.out.size))
 have HK3:=hide (HK2.out.kept (Kp.of_below (X:=fun _=>False) hw3) (fun h=>h))
 have HQ3:=hide hb
 clear hb hw3
 cases b with
 | false =>
   go_wp2_with fail
   go_fit (HRD.out _ HB3.out)
   rintro e w4 ⟨rfl,hb4⟩
   have HB4:=hide (HB3.out.trans (hb4.mono HB3.out.size))
   clear hb4
   go_wp2_with fail
   go_ret
   exact ⟨rfl,HB4.out⟩
 | true =>
 have HPF:=hide (HQ3.out rfl)
 go_wp2_with fail
 go_fit (goVersion_any q _ hqz)
 rintro e w4 ⟨⟨b,rfl,hb⟩,hw4⟩
 have HB4:=hide (HB3.out.trans (hw4.mono HB3.out.size))
 have HK4:=hide (HK3.out.kept (Kp.of_below (X:=fun _=>False) hw4) (fun h=>h))
 have HQ4:=hide hb
 clear hb hw4
 cases b with
 | false =>
   go_wp2_with fail
   go_fit (HRD.out _ HB4.out)
   rintro e w5 ⟨rfl,hb5⟩
   have HB5:=hide (HB4.out.trans (hb5.mono HB4.out.size))
   clear hb5
   go_wp2_with fail
   go_ret
   exact ⟨rfl,HB5.out⟩
 | true =>
 have HGF:=hide (HQ4.out rfl)
 by_cases h50:(50:Int) < (q.size:Int)
 · go_wp2_with fail
   go_fit (HRD.out _ HB4.out)
   rintro e w5 ⟨rfl,hb5⟩
   have HB5:=hide (HB4.out.trans (hb5.mono HB4.out.size))
   clear hb5
   go_wp2_with fail
   go_ret
   exact ⟨rfl,HB5.out⟩
 have HNP:=hide (pathF_nice (p:=bsl p) (by rw [mkS_bsl];exact HPF.out))
 have HNQ:=hide (gof_nice HGF.out (by rw [bsl_len];omega))
 have HTM:=hide (tail_mod (p:=bsl p) (by rw [mkS_bsl];exact HPF.out))
 have HTG:=hide (tail_go HNQ.out (by have:=HGF.out.head;omega))
 have lp:p.size≤100:=HPF.out.len
 have lq:q.size≤50:=by omega
 have HX1:=hide (text_any c blk v1 v2 v3 v4 v5 v6 w4 (HV.out.below HB4.out) HCF.out)
 unfold contV' at HX1
 have k0:w4.cell? ⟨w.heap.size,0,none⟩=some (.string (mkS c.mod)):=HK4.out.cell 0 rfl
 have k1:w4.cell? ⟨w.heap.size,1,none⟩=some (.string (mkS c.go)):=HK4.out.cell 1 rfl
 have k2:w4.cell? ⟨w.heap.size,2,none⟩=some (.string (mkS c.tc)):=HK4.out.cell 2 rfl
 have k3:w4.cell? ⟨w.heap.size,3,none⟩=some v1:=HK4.out.cell 3 rfl
 have k4:w4.cell? ⟨w.heap.size,4,none⟩=some v2:=HK4.out.cell 4 rfl
 have k5:w4.cell? ⟨w.heap.size,5,none⟩=some v3:=HK4.out.cell 5 rfl
 have k6:w4.cell? ⟨w.heap.size,6,none⟩=some v4:=HK4.out.cell 6 rfl
 have k7:w4.cell? ⟨w.heap.size,7,none⟩=some v5:=HK4.out.cell 7 rfl
 have k8:w4.cell? ⟨w.heap.size,8,none⟩=some v6:=HK4.out.cell 8 rfl
 go_wp2_with fail
 go_fit HX1.out
 rintro e w5 ⟨rfl,hw5⟩
 have HB5:=hide (HB4.out.trans (hw5.mono HB4.out.size))
 have HK5:=hide (HK4.out.kept (Kp.of_below (X:=fun _=>False) hw5) (fun h=>h))
 obtain ⟨s,hs⟩:∃ s,s=mkS (joinS (listS c blk)):=⟨_,rfl⟩
 have ls:s.size≤700000:=by rw [hs,mkS_size];exact text_len HCF.out (tv:=moW) (by decide) HNP.out
 rw [← hs]
 have HP1:=hide (show ∀ (t:ByteArray),bsl t=bsl s++10 :: (moW++32 :: (bsl p++[10]))→∀ W',Below w.heap.size w W'→Calls Tryz.prog 13 #[.string t] W' fun e w'=>e=.returned (.tuple #[contentV ⟨#[]⟩,.bool false])∧Below W'.heap.size W' w' from
   fun t ht W' hb=>implParse_two W' t fb fa c blk HCF.out HTM.out (verb_wd _ (by simp)) (by decide) HNP.out (Or.inl rfl) (by rw [ht,hs,bsl_mkSv,text_doc]) (HT.out.below hb))
 clear hw5 HX1 hs k0 k1 k2 k3 k4 k5 k6 k7 k8
 go_wp2_with fail
 go_fit (HP1.out _ (by simp only [bsl_append,List.append_assoc];rfl) _ HB5.out)
 rintro e w6 ⟨rfl,hw6⟩
 have HB6:=hide ((HB5.out.trans (hw6.mono HB5.out.size)).alloc (Nat.le_trans HB5.out.size hw6.size) (Obj.cells #[.string ⟨#[]⟩,.string ⟨#[]⟩,.string ⟨#[]⟩,.slice none 0 0,.slice none 0 0,.slice none 0 0,.slice none 0 0,.slice none 0 0,.slice none 0 0] 28))
 have HK6:=hide ((HK5.out.kept (Kp.of_below (X:=fun _=>False) hw6) (fun h=>h)).alloc (Obj.cells #[.string ⟨#[]⟩,.string ⟨#[]⟩,.string ⟨#[]⟩,.slice none 0 0,.slice none 0 0,.slice none 0 0,.slice none 0 0,.slice none 0 0,.slice none 0 0] 28))
 have hlw:w.heap.size < w6.heap.size:=(HK5.out.kept (Kp.of_below (X:=fun _=>False) hw6) (fun h=>h)).lt
 have hfz:=HK6.out.free 1
 clear hw6 HP1
 unfold contentV
 go_upto_region 7 with fail
 generalize w6.alloc (Obj.cells #[.string ⟨#[]⟩,.string ⟨#[]⟩,.string ⟨#[]⟩,.slice none 0 0,.slice none 0 0,.slice none 0 0,.slice none 0 0,.slice none 0 0,.slice none 0 0] 28)=W6 at HB6 HK6 hfz ⊢
 have m1:W6.cell? ⟨w.heap.size,1,none⟩=some (.string (mkS c.go)):=HK6.out.cell 1 rfl
 go_upto_region 8 with fail
 have HB7:=hide (HB6.out.setCell (p:=⟨w.heap.size,1,none⟩) (Nat.le_refl _) (.string ⟨#[49,46,50]⟩))
 have HK7:=hide ((HK6.out.set 1 (.string ⟨#[49,46,50]⟩)).eq (ds:=#[.string (mkS c.mod),.string ⟨#[49,46,50]⟩,.string (mkS c.tc),v1,v2,v3,v4,v5,v6]) (by simp))
 clear m1 hfz
 generalize W6.setCell ⟨w.heap.size,1,none⟩ (.string ⟨#[49,46,50]⟩)=W7 at HB7 HK7 ⊢
 have k0:W7.cell? ⟨w.heap.size,0,none⟩=some (.string (mkS c.mod)):=HK7.out.cell 0 rfl
 have k1:W7.cell? ⟨w.heap.size,1,none⟩=some (.string ⟨#[49,46,50]⟩):=HK7.out.cell 1 rfl
 have k2:W7.cell? ⟨w.heap.size,2,none⟩=some (.string (mkS c.tc)):=HK7.out.cell 2 rfl
 have k3:W7.cell? ⟨w.heap.size,3,none⟩=some v1:=HK7.out.cell 3 rfl
 have k4:W7.cell? ⟨w.heap.size,4,none⟩=some v2:=HK7.out.cell 4 rfl
 have k5:W7.cell? ⟨w.heap.size,5,none⟩=some v3:=HK7.out.cell 5 rfl
 have k6:W7.cell? ⟨w.heap.size,6,none⟩=some v4:=HK7.out.cell 6 rfl
 have k7:W7.cell? ⟨w.heap.size,7,none⟩=some v5:=HK7.out.cell 7 rfl
 have k8:W7.cell? ⟨w.heap.size,8,none⟩=some v6:=HK7.out.cell 8 rfl
 have HC2:=hide (HCF.out.setGo nice12)
 have HX2:=hide (show Calls Tryz.prog 12 #[.agg #[.string (mkS c.mod),.string ⟨#[49,46,50]⟩,.string (mkS c.tc),v1,v2,v3,v4,v5,v6],.bool blk] W7 (StrR (joinS (listS { c with go:=[49,46,50] } blk)) W7) from
   text_any { c with go:=[49,46,50] } blk v1 v2 v3 v4 v5 v6 W7 ((HV.out.below HB7.out).setGo _) HC2.out)
 go_wp2_with fail
 go_fit HX2.out
 rintro e w8 ⟨rfl,hw8⟩
 have HB8:=hide (HB7.out.trans (hw8.mono HB7.out.size))
 obtain ⟨s',hs'⟩:∃ s,s=mkS (joinS (listS { c with go:=[49,46,50] } blk)):=⟨_,rfl⟩
 have ls':s'.size≤700000:=by rw [hs',mkS_size];exact text_len HC2.out (tv:=moW) (by decide) HNP.out
 rw [← hs']
 have HP2:=hide (show ∀ (t:ByteArray),bsl t=bsl s'++10 :: (goW++32 :: (bsl q++[10]))→∀ W',Below w.heap.size w W'→Calls Tryz.prog 13 #[.string t] W' fun e w'=>e=.returned (.tuple #[contentV ⟨#[]⟩,.bool false])∧Below W'.heap.size W' w' from
   fun t ht W' hb=>implParse_two W' t fb fa { c with go:=[49,46,50] } blk HC2.out HTG.out (verb_wd _ (by simp)) (by decide) HNQ.out (Or.inr ⟨rfl,by simp⟩) (by rw [ht,hs',bsl_mkSv,text_doc]) (HT.out.below hb))
 clear hw8 HX2 hs' k0 k1 k2 k3 k4 k5 k6 k7 k8
 go_wp2_with fail
 go_fit (HP2.out _ (by simp only [bsl_append,List.append_assoc];rfl) _ HB8.out)
 rintro e w9 ⟨rfl,hw9⟩
 have HB9:=hide ((HB8.out.trans (hw9.mono HB8.out.size)).alloc (Nat.le_trans HB8.out.size hw9.size) (Obj.cells #[.string ⟨#[]⟩,.string ⟨#[]⟩,.string ⟨#[]⟩,.slice none 0 0,.slice none 0 0,.slice none 0 0,.slice none 0 0,.slice none 0 0,.slice none 0 0] 28))
 clear hw9 HP2
 unfold contentV
 go_wp2_with fail
 go_fit (HRD.out _ HB9.out)
 rintro e w10 ⟨rfl,hb10⟩
 have HB10:=hide (HB9.out.trans (hb10.mono HB9.out.size))
 clear hb10
 go_wp2_with fail
 go_ret
 exact ⟨rfl,HB10.out⟩
end
end Go.Proofs.YtifkpibjeamfkaaGreatFmt
