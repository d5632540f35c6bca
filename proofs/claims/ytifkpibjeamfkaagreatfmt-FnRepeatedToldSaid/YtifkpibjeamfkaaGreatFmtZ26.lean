/-
  Span of a file of statements of any kind.
  Expressions of a tree as assignComments meets them: Span, Comment, is it the file.
  slices.Backward where the round may write elsewhere.
-/
import Derived.Test.YtifkpibjeamfkaaGreatFmtZ25
import Derived.Test.YtifkpibjeamfkaaGreatFmtZ03
set_option linter.unusedVariables false
set_option linter.unusedSimpArgs false
set_option maxRecDepth 100000
namespace Go.Proofs.YtifkpibjeamfkaaGreatFmt
section
open Go.RowKit Go.Proofs
def IntsAt (w:World) (b:Nat) (t:TypeId) (js:List Nat):Prop:=∃ cs,Blk w b t cs∧∀ j ∈ js,IsI cs[j]?
theorem IntsAt.below {w w':World} {b:Nat} {t:TypeId} {js:List Nat} (h:IntsAt w b t js) (k:Below w.heap.size w w'):IntsAt w' b t js:=by
 obtain ⟨cs,hb,hj⟩:=h
 exact ⟨cs,hb.kept (Kp.of_below (X:=fun _=>False) k) (fun h=>h),hj⟩
def NdI (w:World):Nd→Prop
 | .cb C=>IntsAt w C 201 [3,4,5]
 | .ln L=>IntsAt w L 136 [3,4,5,8,9,10]
 | .bk X _=>IntsAt w X 143 [3,4,5,9,10,11,17,18,19]
theorem NdI.below {w w':World} {nd:Nd} (h:NdI w nd) (k:Below w.heap.size w w'):NdI w' nd:=by
 cases nd <;> exact IntsAt.below h k
theorem nd_span (nd:Nd):∃ t p f,nd.val=.iface t p∧(∀ w,Sem.run Tryz.prog (method 420 t p "Span") w=.ok (f,p) w)∧(∀ args w,(callFunc f args).run Tryz.prog w=.ok (.enter f args) w)∧∀ w,NdI w nd→Calls Tryz.prog f #[p] w (SpanP w):=by
 cases nd with
 | cb C =>
   refine ⟨_,_,225,rfl,fun w=>by kernel_rfl,enters_of Tryz.func225 (by kernel_rfl) rfl,?_⟩
   rintro w ⟨cs,hb,hj⟩
   exact span_cb w C cs hb (hj 3 (by simp)) (hj 4 (by simp)) (hj 5 (by simp))
 | ln L =>
   refine ⟨_,_,211,rfl,fun w=>by kernel_rfl,enters_of Tryz.func211 (by kernel_rfl) rfl,?_⟩
   rintro w ⟨cs,hb,hj⟩
   obtain ⟨a3,h3⟩:=hj 3 (by simp)
   obtain ⟨a4,h4⟩:=hj 4 (by simp)
   obtain ⟨a5,h5⟩:=hj 5 (by simp)
   obtain ⟨a8,h8⟩:=hj 8 (by simp)
   obtain ⟨a9,h9⟩:=hj 9 (by simp)
   obtain ⟨a10,h10⟩:=hj 10 (by simp)
   exact (span_line w L cs _ _ _ _ _ _ hb h3 h4 h5 h8 h9 h10).mono (fun e w' h=>⟨⟨_,_,_,_,_,_,h.1⟩,h.2⟩)
 | bk X Ls =>
   refine ⟨_,_,216,rfl,fun w=>by kernel_rfl,enters_of Tryz.func216 (by kernel_rfl) rfl,?_⟩
   rintro w ⟨cs,hb,hj⟩
   exact span_bk w X cs hb (hj 3 (by simp)) (hj 4 (by simp)) (hj 5 (by simp)) (hj 17 (by simp)) (hj 18 (by simp)) (hj 19 (by simp))
def FileS (N:Nat) (w:World) (F:Nat) (xs:List Value):Prop:=∃ v cs,Blk w F 129 cs∧cs[4]?=some v∧w.ownsRow N 131 1 v xs.length xs
theorem FileS.below {N:Nat} {w w':World} {F:Nat} {xs:List Value} (h:FileS N w F xs) (k:Below w.heap.size w w'):FileS N w' F xs:=by
 obtain ⟨v,cs,hb,h4,ho⟩:=h
 exact ⟨v,cs,hb.kept (Kp.of_below (X:=fun _=>False) k) (fun h=>h),h4,ownsRow_kp ho (Kp.of_below (X:=fun _=>False) k) (fun _ _ h=>h)⟩
theorem FileAt.s {N:Nat} {w:World} {F:Nat} {nm:ByteArray} {xs:List Value} (h:FileAt N w F nm xs):FileS N w F xs:=by
 obtain ⟨v,hb,ho⟩:=h
 exact ⟨v,_,hb,rfl,ho⟩
set_option maxHeartbeats 1000000 in
theorem span_tree (N:Nat) (w:World) (F:Nat) (ns:List Nd) (hF:FileS N w F (ns.map Nd.val)) (hns:∀ nd ∈ ns,NdI w nd) (hl0:0 < ns.length) (hl:ns.length≤1000000) :
   Calls Tryz.prog 209 #[.pointer (some ⟨F,0,none⟩)] w (SpanP w):=by
 unfold SpanP
 obtain ⟨v,fcs,hFb,hF4,hFo⟩:=hF
 obtain ⟨g0,cap0,rfl⟩:∃ g cap,v=.slice (some ⟨g,0,none⟩) ns.length cap:=by
   rcases hFo.2 with ⟨_,h2⟩ | ⟨g,cap,cur,e,_⟩
   · rw [List.length_map] at h2;omega
   · exact ⟨g,cap,by simpa using e⟩
 rw [List.length_map] at hFo
 have hg0:g0 < w.heap.size:=(hFo.lt g0 rfl).2
 obtain ⟨nd1,hL1⟩:∃ L,ns[0]?=some L:=⟨_,List.getElem?_eq_getElem hl0⟩
 obtain ⟨nd2,hL2⟩:∃ L,ns[ns.length - 1]?=some L:=⟨_,List.getElem?_eq_getElem (by omega)⟩
 have e1:w.cell? ⟨g0,0,none⟩=some nd1.val:=by rw [hFo.cellAt 0 (by omega)];simp [hL1]
 have e2:w.cell? ⟨g0,ns.length - 1,none⟩=some nd2.val:=by rw [hFo.cellAt _ (by omega)];simp [hL2]
 have hl1:=hns nd1 (List.mem_of_getElem? hL1)
 have hl2:=hns nd2 (List.mem_of_getElem? hL2)
 obtain ⟨t1,p1,f1,v1,m1',eg1,hc1⟩:=nd_span nd1
 obtain ⟨t2,p2',f2,v2,m2',eg2,hc2⟩:=nd_span nd2
 have e4:w.cell? ⟨F,4,none⟩=some (.slice (some ⟨g0,0,none⟩) ns.length cap0):=hFb.cell 4 hF4
 have hFl:=hFb.lt
 rw [v1] at e1
 rw [v2] at e2
 obtain ⟨m,hm⟩:∃ m,ns.length=m+1:=⟨ns.length - 1,by omega⟩
 rw [show ns.length - 1=m from by omega] at e2 hL2
 rw [hm] at e4 hl
 have hne:(((m:Int)+1) == 0)=false:=by simp only [beq_eq_false_iff_ne];omega
 have hwm:IntKind.i64.wrap (m:Int)=(m:Int):=by simp only [IntKind.wrap,IntKind.signed,IntKind.bits];simp;omega
 have h0:(0:Int)≤(m:Int):=by omega
 have h1:(m:Int) < (m:Int)+1:=by omega
 have h2:(0:Int) < (m:Int)+1:=by omega
 have HL1:=hide hl1
 have HL2:=hide hl2
 have HC1:=hide hc1
 have HC2:=hide hc2
 clear hc1 hc2 v1 v2
 clear hl1 hl2 hns hL1 hL2 hFb hFo
 go_enter Tryz.func209,Tryz.ntmps209
 go_wp2_with fail
 have hbA:Below w.heap.size w ((w.alloc (Obj.cells #[Value.int IntKind.i64 0,Value.int IntKind.i64 0,Value.int IntKind.i64 0] 134)).alloc (Obj.cells #[Value.int IntKind.i64 0,Value.int IntKind.i64 0,Value.int IntKind.i64 0] 134)) :=
   ((Below.refl _ w).alloc (Nat.le_refl _) _).alloc (by simp) _
 have p2:=(Blk.new w 134 #[Value.int IntKind.i64 0,Value.int IntKind.i64 0,Value.int IntKind.i64 0]).alloc (Obj.cells #[Value.int IntKind.i64 0,Value.int IntKind.i64 0,Value.int IntKind.i64 0] 134)
 have p3:=Blk.new (w.alloc (Obj.cells #[Value.int IntKind.i64 0,Value.int IntKind.i64 0,Value.int IntKind.i64 0] 134)) 134 #[Value.int IntKind.i64 0,Value.int IntKind.i64 0,Value.int IntKind.i64 0]
 rw [show (w.alloc (Obj.cells #[Value.int IntKind.i64 0,Value.int IntKind.i64 0,Value.int IntKind.i64 0] 134)).heap.size=w.heap.size+1 from by simp] at p3
 generalize ((w.alloc (Obj.cells #[Value.int IntKind.i64 0,Value.int IntKind.i64 0,Value.int IntKind.i64 0] 134)).alloc (Obj.cells #[Value.int IntKind.i64 0,Value.int IntKind.i64 0,Value.int IntKind.i64 0] 134))=W at hbA p2 p3 ⊢
 refine (HC1.out W (HL1.out.below hbA)).mono ?_
 unfold SpanP
 rintro e w2 ⟨⟨a1,a2,a3,b1,b2,b3,rfl⟩,hb2⟩
 have hb02:Below w.heap.size w w2:=hbA.trans (hb2.mono hbA.size)
 have d4:w2.cell? ⟨F,4,none⟩=some (.slice (some ⟨g0,0,none⟩) (m+1) cap0):=(hb02.cell (p:=⟨F,4,none⟩) hFl).trans e4
 have d2:w2.cell? ⟨g0,m,none⟩=some (.iface t2 p2'):=(hb02.cell (p:=⟨g0,m,none⟩) hg0).trans e2
 have p2':=p2.kept (Kp.of_below (X:=fun _=>False) hb2) (fun h=>h)
 have p3':=p3.kept (Kp.of_below (X:=fun _=>False) hb2) (fun h=>h)
 have r0:w2.cell? ⟨w.heap.size,0,none⟩=some (.int .i64 0):=p2'.cell 0 rfl
 have s0:w2.cell? ⟨w.heap.size+1,0,none⟩=some (.int .i64 0):=p3'.cell 0 rfl
 have r1:w2.cell? ⟨w.heap.size,1,none⟩=some (.int .i64 0):=p2'.cell 1 rfl
 have s1:w2.cell? ⟨w.heap.size+1,1,none⟩=some (.int .i64 0):=p3'.cell 1 rfl
 have r2:w2.cell? ⟨w.heap.size,2,none⟩=some (.int .i64 0):=p2'.cell 2 rfl
 have s2:w2.cell? ⟨w.heap.size+1,2,none⟩=some (.int .i64 0):=p3'.cell 2 rfl
 have fr:∀ j,w2.frozen? ⟨w.heap.size,j,none⟩=false:=fun j=>p2'.free j
 have fs:∀ j,w2.frozen? ⟨w.heap.size+1,j,none⟩=false:=fun j=>p3'.free j
 have m1:F≠w.heap.size:=by omega
 have m2:g0≠w.heap.size:=by omega
 have m3:F≠w.heap.size+1:=by omega
 have m4:g0≠w.heap.size+1:=by omega
 have HB:=hide hb02
 have P2:=hide p2'
 have P3:=hide p3'
 clear e1 e2 e4 hbA p2 p3 hb2 hb02 p2' p3'
 unfold posV
 go_wp2_with fail
 have q2:=((P2.out.set 0 (.int .i64 a1)).set 1 (.int .i64 a2)).set 2 (.int .i64 a3)
 have q3:Blk (((w2.setCell ⟨w.heap.size,0,none⟩ (.int .i64 a1)).setCell ⟨w.heap.size,1,none⟩ (.int .i64 a2)).setCell ⟨w.heap.size,2,none⟩ (.int .i64 a3)) (w.heap.size+1) 134 #[Value.int IntKind.i64 0,Value.int IntKind.i64 0,Value.int IntKind.i64 0] :=
   ((P3.out.set_other (by simp) _).set_other (by simp) _).set_other (by simp) _
 have hb3:Below w.heap.size w (((w2.setCell ⟨w.heap.size,0,none⟩ (.int .i64 a1)).setCell ⟨w.heap.size,1,none⟩ (.int .i64 a2)).setCell ⟨w.heap.size,2,none⟩ (.int .i64 a3)) :=
   ((HB.out.setCell (p:=⟨w.heap.size,0,none⟩) (Nat.le_refl _) _).setCell (p:=⟨w.heap.size,1,none⟩) (Nat.le_refl _) _).setCell (p:=⟨w.heap.size,2,none⟩) (Nat.le_refl _) _
 have d4':(((w2.setCell ⟨w.heap.size,0,none⟩ (.int .i64 a1)).setCell ⟨w.heap.size,1,none⟩ (.int .i64 a2)).setCell ⟨w.heap.size,2,none⟩ (.int .i64 a3)).cell? ⟨F,4,none⟩=some (.slice (some ⟨g0,0,none⟩) (m+1) cap0):=by
   simp [World.cell?_setCell_far,d4,m1.symm]
 have d2':(((w2.setCell ⟨w.heap.size,0,none⟩ (.int .i64 a1)).setCell ⟨w.heap.size,1,none⟩ (.int .i64 a2)).setCell ⟨w.heap.size,2,none⟩ (.int .i64 a3)).cell? ⟨g0,m,none⟩=some (.iface t2 p2'):=by
   simp [World.cell?_setCell_far,d2,m2.symm]
 clear d4 d2 r0 r1 r2 s0 s1 s2 fr fs
 generalize (((w2.setCell ⟨w.heap.size,0,none⟩ (.int .i64 a1)).setCell ⟨w.heap.size,1,none⟩ (.int .i64 a2)).setCell ⟨w.heap.size,2,none⟩ (.int .i64 a3))=W3 at q2 q3 hb3 d4' d2' ⊢
 have n1:=World.new_ne W3 _ d4'
 have m3':=m3.symm
 have m4':=m4.symm
 have Q2:=hide q2
 have Q3:=hide q3
 have HB3:=hide hb3
 have hls:NdI W3 nd2:=HL2.out.below hb3
 have HLS:=hide hls
 have hpw:w.heap.size+1 < W3.heap.size:=q3.lt
 clear q2 q3 hb3 hls
 go_region_held3 (fun w'=>w'.cell? ⟨F,4,none⟩=some (.slice (some ⟨g0,0,none⟩) (m+1) cap0)∧w'.cell? ⟨g0,m,none⟩=some (.iface t2 p2')) (go_keep)
   ((go_fit (HC2.out W3.drew (HLS.out.below (Below.refl _ W3).drew));unfold SpanP;rintro e w4 ⟨⟨c1,c2,c3,k1,k2,k3,rfl⟩,hb5⟩;have hb4:Below W3.heap.size W3 w4:=((Below.refl W3.heap.size W3).drew).trans hb5;have u4:w4.cell? ⟨F,4,none⟩=some (.slice (some ⟨g0,0,none⟩) (m+1) cap0):=(hb4.cell (p:=⟨F,4,none⟩) (show F < W3.heap.size by omega)).trans d4';have u2:w4.cell? ⟨g0,m,none⟩=some (.iface t2 p2'):=(hb4.cell (p:=⟨g0,m,none⟩) (show g0 < W3.heap.size by omega)).trans d2';have y2:=Q2.out.kept (Kp.of_below (X:=fun _=>False) hb4) (fun h=>h);have y3:=Q3.out.kept (Kp.of_below (X:=fun _=>False) hb4) (fun h=>h);have fs:∀ j,w4.frozen? ⟨w.heap.size+1,j,none⟩=false:=fun j=>y3.free j;have z0:w4.cell? ⟨w.heap.size+1,0,none⟩=some (.int .i64 0):=y3.cell 0 rfl;have z1:w4.cell? ⟨w.heap.size+1,1,none⟩=some (.int .i64 0):=y3.cell 1 rfl;have z2:w4.cell? ⟨w.heap.size+1,2,none⟩=some (.int .i64 0):=y3.cell 2 rfl;have Y2:=hide y2;have Y3:=hide y3;have HB4:=hide (HB3.out.trans (hb4.mono HB3.out.size));unfold posV;clear y2 y3 hb4 hb5))
 all_goals go_wp2
 have x3:=((Y3.out.set 0 (.int .i64 k1)).set 1 (.int .i64 k2)).set 2 (.int .i64 k3)
 have x2:=((Y2.out.set_other (a:=⟨w.heap.size+1,0,none⟩) (by simp) (.int .i64 k1)).set_other (a:=⟨w.heap.size+1,1,none⟩) (by simp) (.int .i64 k2)).set_other (a:=⟨w.heap.size+1,2,none⟩) (by simp) (.int .i64 k3)
 have hb6:Below w.heap.size w (((w4.setCell ⟨w.heap.size+1,0,none⟩ (.int .i64 k1)).setCell ⟨w.heap.size+1,1,none⟩ (.int .i64 k2)).setCell ⟨w.heap.size+1,2,none⟩ (.int .i64 k3)) :=
   ((HB4.out.setCell (p:=⟨w.heap.size+1,0,none⟩) (Nat.le_succ _) _).setCell (p:=⟨w.heap.size+1,1,none⟩) (Nat.le_succ _) _).setCell (p:=⟨w.heap.size+1,2,none⟩) (Nat.le_succ _) _
 clear u4 u2 fs z0 z1 z2
 generalize (((w4.setCell ⟨w.heap.size+1,0,none⟩ (.int .i64 k1)).setCell ⟨w.heap.size+1,1,none⟩ (.int .i64 k2)).setCell ⟨w.heap.size+1,2,none⟩ (.int .i64 k3))=W6 at x2 x3 hb6 ⊢
 have h60:W6.cell? ⟨w.heap.size,0,none⟩=some (.int .i64 a1):=x2.cell 0 rfl
 have l0:W6.cell? ⟨w.heap.size+1,0,none⟩=some (.int .i64 k1):=x3.cell 0 rfl
 have i0:W6.setCell ⟨w.heap.size,0,none⟩ (.int .i64 a1)=W6:=x2.set_id rfl
 have o0:W6.setCell ⟨w.heap.size+1,0,none⟩ (.int .i64 k1)=W6:=x3.set_id rfl
 have h61:W6.cell? ⟨w.heap.size,1,none⟩=some (.int .i64 a2):=x2.cell 1 rfl
 have l1:W6.cell? ⟨w.heap.size+1,1,none⟩=some (.int .i64 k2):=x3.cell 1 rfl
 have i1:W6.setCell ⟨w.heap.size,1,none⟩ (.int .i64 a2)=W6:=x2.set_id rfl
 have o1:W6.setCell ⟨w.heap.size+1,1,none⟩ (.int .i64 k2)=W6:=x3.set_id rfl
 have h62:W6.cell? ⟨w.heap.size,2,none⟩=some (.int .i64 a3):=x2.cell 2 rfl
 have l2:W6.cell? ⟨w.heap.size+1,2,none⟩=some (.int .i64 k3):=x3.cell 2 rfl
 have i2:W6.setCell ⟨w.heap.size,2,none⟩ (.int .i64 a3)=W6:=x2.set_id rfl
 have o2:W6.setCell ⟨w.heap.size+1,2,none⟩ (.int .i64 k3)=W6:=x3.set_id rfl
 have f2:∀ j,W6.frozen? ⟨w.heap.size,j,none⟩=false:=fun j=>x2.free j
 have f3:∀ j,W6.frozen? ⟨w.heap.size+1,j,none⟩=false:=fun j=>x3.free j
 go_region_held3 (fun w'=>w'.cell? ⟨w.heap.size,0,none⟩=some (.int .i64 a1)∧w'.cell? ⟨w.heap.size,1,none⟩=some (.int .i64 a2)∧w'.cell? ⟨w.heap.size,2,none⟩=some (.int .i64 a3) ∧
     w'.cell? ⟨w.heap.size+1,0,none⟩=some (.int .i64 k1)∧w'.cell? ⟨w.heap.size+1,1,none⟩=some (.int .i64 k2)∧w'.cell? ⟨w.heap.size+1,2,none⟩=some (.int .i64 k3)) (go_keep) (fail)
 all_goals go_wp2
 all_goals
   refine bodyPost_ret (v:=.tuple #[posV a1 a2 a3,posV k1 k2 k3]) (by simp [results,Tryz.results209,go_sem,posV,h60,h61,h62,l0,l1,l2]) rfl ⟨⟨_,_,_,_,_,_,rfl⟩,hb6.drew⟩
end
section
open Go.RowKit Go.Proofs
def Ex.addr:Ex→Addr
 | .file F=>⟨F,1,none⟩
 | .cb C=>⟨C,0,none⟩
 | .ln L=>⟨L,0,none⟩
 | .bk X=>⟨X,0,none⟩
 | .lp X=>⟨X,6,none⟩
 | .rp X=>⟨X,14,none⟩
def ExI (N:Nat) (ns:List Nd) (w:World):Ex→Prop
 | .file F=>FileS N w F (ns.map Nd.val)∧(∀ nd ∈ ns,NdI w nd)∧0 < ns.length∧ns.length≤1000000
 | .cb C=>IntsAt w C 201 [3,4,5]
 | .ln L=>IntsAt w L 136 [3,4,5,8,9,10]
 | .bk X=>IntsAt w X 143 [3,4,5,9,10,11,17,18,19]
 | .lp X=>IntsAt w X 143 [3,4,5,9,10,11,17,18,19]
 | .rp X=>IntsAt w X 143 [3,4,5,9,10,11,17,18,19]
theorem ExI.below {N:Nat} {ns:List Nd} {w w':World} {e:Ex} (h:ExI N ns w e) (k:Below w.heap.size w w'):ExI N ns w' e:=by
 cases e with
 | file F=>exact ⟨h.1.below k,fun nd hn=>(h.2.1 nd hn).below k,h.2.2⟩
 | _=>exact IntsAt.below h k
def Ex.isFile:Ex→Bool
 | .file _=>true
 | _=>false
theorem ex_meth (N:Nat) (ns:List Nd) (e:Ex):∃ t p f,e.val=.iface t p∧(∀ w,Sem.run Tryz.prog (method 420 t p "Span") w=.ok (f,p) w)∧(∀ args w,(callFunc f args).run Tryz.prog w=.ok (.enter f args) w)∧(∀ w,ExI N ns w e→Calls Tryz.prog f #[p] w (SpanP w)) ∧
   (∀ w,Sem.run Tryz.prog (method 420 t p "Comment") w=.ok (96,.pointer (some e.addr)) w) ∧
   (∀ w,(Instr.typeAssert (.iface t p) 131 87 true).run Tryz.prog w=.ok (.tuple #[if e.isFile then p else .pointer none,.bool e.isFile]) w):=by
 cases e with
 | file F =>
   refine ⟨_,_,209,rfl,fun w=>by kernel_rfl,enters_of Tryz.func209 (by kernel_rfl) rfl,?_,fun w=>by kernel_rfl,fun w=>as_file_file _ w⟩
   rintro w ⟨hf,h2,h3,h4⟩
   exact span_tree N w F ns hf h2 h3 h4
 | cb C =>
   refine ⟨_,_,225,rfl,fun w=>by kernel_rfl,enters_of Tryz.func225 (by kernel_rfl) rfl,?_,fun w=>by kernel_rfl,fun w=>as_cb_file _ w⟩
   rintro w ⟨cs,hb,hj⟩
   exact span_cb w C cs hb (hj 3 (by simp)) (hj 4 (by simp)) (hj 5 (by simp))
 | ln L =>
   refine ⟨_,_,211,rfl,fun w=>by kernel_rfl,enters_of Tryz.func211 (by kernel_rfl) rfl,?_,fun w=>by kernel_rfl,fun w=>as_line_file _ w⟩
   rintro w ⟨cs,hb,hj⟩
   obtain ⟨a3,h3⟩:=hj 3 (by simp)
   obtain ⟨a4,h4⟩:=hj 4 (by simp)
   obtain ⟨a5,h5⟩:=hj 5 (by simp)
   obtain ⟨a8,h8⟩:=hj 8 (by simp)
   obtain ⟨a9,h9⟩:=hj 9 (by simp)
   obtain ⟨a10,h10⟩:=hj 10 (by simp)
   exact (span_line w L cs _ _ _ _ _ _ hb h3 h4 h5 h8 h9 h10).mono (fun e w' h=>⟨⟨_,_,_,_,_,_,h.1⟩,h.2⟩)
 | bk X =>
   refine ⟨_,_,216,rfl,fun w=>by kernel_rfl,enters_of Tryz.func216 (by kernel_rfl) rfl,?_,fun w=>by kernel_rfl,fun w=>as_lb_file _ w⟩
   rintro w ⟨cs,hb,hj⟩
   exact span_bk w X cs hb (hj 3 (by simp)) (hj 4 (by simp)) (hj 5 (by simp)) (hj 17 (by simp)) (hj 18 (by simp)) (hj 19 (by simp))
 | lp X =>
   refine ⟨_,_,228,rfl,fun w=>by kernel_rfl,enters_of Tryz.func228 (by kernel_rfl) rfl,?_,fun w=>by kernel_rfl,fun w=>as_lp_file _ w⟩
   rintro w ⟨cs,hb,hj⟩
   exact span_lp w X cs hb (hj 9 (by simp)) (hj 10 (by simp)) (hj 11 (by simp))
 | rp X =>
   refine ⟨_,_,229,rfl,fun w=>by kernel_rfl,enters_of Tryz.func229 (by kernel_rfl) rfl,?_,fun w=>by kernel_rfl,fun w=>as_rp_file _ w⟩
   rintro w ⟨cs,hb,hj⟩
   exact span_rp w X cs hb (hj 17 (by simp)) (hj 18 (by simp)) (hj 19 (by simp))
def SlotZ (t:TypeId) (j:Nat):Prop :=
 (t=136∧j=1)∨(t=201∧j=1)∨(t=143∧(j=1∨j=7∨j=15))∨(t=129∧(j=1∨j=2∨j=3))
structure Sq (N:Nat) (w w':World):Prop where
 below:Below N w w'
 keep:∀ (k:Nat) (cs:Array Value) (t:TypeId) (fz:Nat × Nat),w.heap[k]?=some (.cells cs t fz)→t≠155→∃ cs',w'.heap[k]?=some (.cells cs' t fz)∧cs'.size=cs.size∧∀ j,¬ SlotZ t j→cs'[j]?=cs[j]?
theorem Sq.refl (N:Nat) (w:World):Sq N w w:=⟨Below.refl _ _,fun k cs t fz h _=>⟨cs,h,rfl,fun _ _=>rfl⟩⟩
theorem Sq.trans {N:Nat} {a b c:World} (h:Sq N a b) (k:Sq N b c):Sq N a c:=by
 refine ⟨h.below.trans k.below,fun i cs t fz he ht=>?_⟩
 obtain ⟨cs1,h1,h2,h3⟩:=h.keep i cs t fz he ht
 obtain ⟨cs2,h4,h5,h6⟩:=k.keep i cs1 t fz h1 ht
 exact ⟨cs2,h4,h5.trans h2,fun j hj=>(h6 j hj).trans (h3 j hj)⟩
theorem Sq.size {N:Nat} {a b:World} (h:Sq N a b):a.heap.size≤b.heap.size:=h.below.size
theorem Sq.step {N B:Nat} {a b c:World} {cb:Array Value} (h:Sq N a b) (hN:N≤a.heap.size) (k:Kp (fun i=>i=B∨a.heap.size≤i) b c) (hb:Blk b B 155 cb) (kb:Below N b c):Sq N a c:=by
 refine ⟨h.below.trans kb,fun i cs t fz he ht=>?_⟩
 obtain ⟨cs1,h1,h2,h3⟩:=h.keep i cs t fz he ht
 have hi:=(Array.getElem?_eq_some_iff.1 he).1
 refine ⟨cs1,(k.block i (Array.getElem?_eq_some_iff.1 h1).1 (fun e=>?_)).trans h1,h2,h3⟩
 rcases e with rfl | e
 · have:=hb.out
   rw [h1] at this
   simp only [Option.some.injEq,Obj.cells.injEq] at this
   exact ht this.2.1
 · omega
theorem Sq.below' {N:Nat} {a b c:World} (h:Sq N a b) (k:Below b.heap.size b c) (hN:N≤b.heap.size):Sq N a c:=by
 refine ⟨h.below.trans (k.mono hN),fun i cs t fz he ht=>?_⟩
 obtain ⟨cs1,h1,h2,h3⟩:=h.keep i cs t fz he ht
 exact ⟨cs1,(k.block i (Array.getElem?_eq_some_iff.1 h1).1).trans h1,h2,h3⟩
theorem Sq.slot {N b j:Nat} {a w:World} {t:TypeId} {cs:Array Value} (h:Sq N a w) (hN:N≤b) (hb:Blk w b t cs) (hz:SlotZ t j) (v:Value):Sq N a (w.setCell ⟨b,j,none⟩ v):=by
 refine ⟨h.below.trans (Below.setCell (Below.refl _ _) hN v),fun i ds u fz he ht=>?_⟩
 obtain ⟨cs1,h1,h2,h3⟩:=h.keep i ds u fz he ht
 by_cases hi:i=b
 · subst hi
   have h4:=hb.out
   rw [h1] at h4
   simp only [Option.some.injEq,Obj.cells.injEq] at h4
   obtain ⟨rfl,rfl,rfl⟩:=h4
   refine ⟨_,(hb.set j v).out,by simp [h2],fun q hq=>?_⟩
   rw [Array.getElem?_setIfInBounds_ne (by rintro rfl;exact hq hz)]
   exact h3 q hq
 · exact ⟨cs1,(Below.heap_setCell _ _ _ _ hi).trans h1,h2,h3⟩
theorem Sq.blk {N b:Nat} {a w:World} {t:TypeId} {cs:Array Value} (h:Sq N a w) (hb:Blk a b t cs) (ht:t≠155):∃ cs',Blk w b t cs'∧cs'.size=cs.size∧∀ j,¬ SlotZ t j→cs'[j]?=cs[j]?:=by
 obtain ⟨cs1,h1,h2,h3⟩:=h.keep b cs t _ hb.out ht
 exact ⟨cs1,⟨h1⟩,h2,h3⟩
theorem Sq.blk' {N b:Nat} {a w:World} {t:TypeId} {cs:Array Value} (h:Sq N a w) (hb:Blk a b t cs) (ht:t≠155) (hz:∀ j,¬ SlotZ t j):Blk w b t cs:=by
 obtain ⟨cs1,h1,h2,h3⟩:=h.blk hb ht
 have:cs1=cs:=Array.ext_getElem? (fun j=>h3 j (hz j))
 exact this ▸ h1
theorem Sq.row {N M:Nat} {a w:World} {v:Value} {e:TypeId} {sz n:Nat} {xs:List Value} (h:Sq N a w) (hr:a.ownsRow M e sz v n xs) (ht:e≠155) (hz:∀ j,¬ SlotZ e j):w.ownsRow M e sz v n xs:=by
 obtain ⟨h1,h2⟩:=hr
 refine ⟨h1,?_⟩
 rcases h2 with h2 | ⟨g,cap,cur,rfl,hg,hh,r⟩
 · exact Or.inl h2
 · obtain ⟨cs1,h3,h4,h5⟩:=h.keep g cur e _ hh ht
   have:cs1=cur:=Array.ext_getElem? (fun j=>h5 j (hz j))
   subst this
   exact Or.inr ⟨g,cap,cs1,rfl,hg,h3,r⟩
theorem Sq.ints {N b:Nat} {a w:World} {t:TypeId} {js:List Nat} (h:Sq N a w) (hi:IntsAt a b t js) (ht:t≠155) (hz:∀ j ∈ js,¬ SlotZ t j):IntsAt w b t js:=by
 obtain ⟨cs,hb,hj⟩:=hi
 obtain ⟨cs1,h1,_,h3⟩:=h.blk hb ht
 exact ⟨cs1,h1,fun j hjs=>by rw [h3 j (hz j hjs)];exact hj j hjs⟩
theorem Sq.nd {N:Nat} {a w:World} (h:Sq N a w) {nd:Nd} (hi:NdI a nd):NdI w nd:=by
 cases nd with
 | cb C=>exact h.ints hi (by decide) (by simp [SlotZ])
 | ln L=>exact h.ints hi (by decide) (by simp [SlotZ])
 | bk X Ls=>exact h.ints hi (by decide) (by simp [SlotZ])
theorem Sq.ex {N M:Nat} {ns:List Nd} {a w:World} (h:Sq N a w) {e:Ex} (hi:ExI M ns a e):ExI M ns w e:=by
 cases e with
 | file F =>
   obtain ⟨⟨v,cs,hb,h4,ho⟩,h2,h3⟩:=hi
   obtain ⟨cs',hb',hs,hc⟩:=h.blk hb (by decide)
   exact ⟨⟨v,cs',hb',by rw [hc 4 (by simp [SlotZ])];exact h4,h.row ho (by decide) (by simp [SlotZ])⟩,fun nd hn=>h.nd (h2 nd hn),h3⟩
 | cb C=>exact h.ints hi (by decide) (by simp [SlotZ])
 | ln L=>exact h.ints hi (by decide) (by simp [SlotZ])
 | bk X=>exact h.ints hi (by decide) (by simp [SlotZ])
 | lp X=>exact h.ints hi (by decide) (by simp [SlotZ])
 | rp X=>exact h.ints hi (by decide) (by simp [SlotZ])
theorem Sq.cm {N M:Nat} {a w:World} {v:Value} {cs:List Cmt} (h:Sq N a w) (hc:CmAt M a v cs):CmAt M w v cs:=⟨h.row hc.1 (by decide) (fun j=>by simp [SlotZ]),hc.2⟩
end
section
open Go.RowKit Go.Shelf Go.Proofs
attribute [local go_sem] Oper.semAt_some
structure Kq (Bs b:Nat) (A B:World):Prop where
 size:A.heap.size≤B.heap.size
 hB:B.heap[Bs]?=A.heap[Bs]?
 hb:B.heap[b]?=A.heap[b]?
theorem Kq.refl (Bs b:Nat) (A:World):Kq Bs b A A:=⟨Nat.le_refl _,rfl,rfl⟩
theorem Kq.trans {Bs b:Nat} {A B C:World} (h:Kq Bs b A B) (k:Kq Bs b B C):Kq Bs b A C:=⟨Nat.le_trans h.size k.size,k.hB.trans h.hB,k.hb.trans h.hb⟩
theorem cell_heap {A B:World} {b:Nat} (h:B.heap[b]?=A.heap[b]?) (j:Nat):B.cell? ⟨b,j,none⟩=A.cell? ⟨b,j,none⟩:=by
 simp [World.cell?,h]
theorem Kq.cB {Bs b:Nat} {A B:World} (h:Kq Bs b A B) (j:Nat):B.cell? ⟨Bs,j,none⟩=A.cell? ⟨Bs,j,none⟩:=cell_heap h.hB j
theorem Kq.cb {Bs b:Nat} {A B:World} (h:Kq Bs b A B) (j:Nat):B.cell? ⟨b,j,none⟩=A.cell? ⟨b,j,none⟩:=cell_heap h.hb j
theorem kqK_b {Bs b:Nat} {w:World} (h1:Bs < w.heap.size) (h2:b < w.heap.size) (W:World) (l:Nat) (o o':Obj) (hl:w.heap.size≤l) (h:W.heap[l]?=some o) (_:o.isCells=false) (_:o.isWalk=false):Kq Bs b W (W.putObj l o'):=by
 have hs:=(Array.getElem?_eq_some_iff.1 h).1
 have k:=(Below.refl l W).grown (grownBy_putObj' W l o') (by omega) (fun k e=>by cases e;omega)
 exact ⟨k.size,k.block Bs (by omega),k.block b (by omega)⟩
set_option maxHeartbeats 2000000 in
theorem backq1_in (F:Fence) (n:Nat) (h8:F.fn 134) (hro:F.round=none) (hn:1≤n) (l Bs b cap:Nat) (zs:List Value) (hreach:zs.length≤20000000) (J Jx:List (Fin zs.length)→World→Prop)
   (hY:∀ pre x W,J pre W→pre.length < zs.length→YieldAt F (n - 1) Tryz.prog l (backEnc zs x) W fun e W' =>
     (e=.returned (.bool true)∧J (pre++[x]) W'∧Kq Bs b W W')∨(e=.returned (.bool false)∧Jx (pre++[x]) W'))
   (W:World) (hBs:W.cell? ⟨Bs,0,none⟩=some (.slice (some ⟨b,0,none⟩) zs.length cap)) (hc:∀ j (h:j < zs.length),W.cell? ⟨b,j,none⟩=some zs[j]) (h0:J [] W) :
   CallsIn F n Tryz.prog 134 #[.func (.yield l) #[] #[],.pointer (some ⟨Bs,0,none⟩)] W fun e W'=>(∃ v,e=.returned v) ∧
     ((∃ ys,True∧J ys W')∨(∃ pre,True∧Jx pre W')):=by
 refine callsIn_of_wp Tryz.func134 rfl h8 ?_ hro
 simp only [Tryz.ntmps134,List.size_toArray,List.length_cons,List.length_nil,Nat.reduceAdd,Nat.reduceSub,Array.replicate_succ,Array.replicate_zero,List.push_toArray,List.append_toArray,List.nil_append,List.cons_append]
 have hw:wrap64 ((zs.length:Int) - 1)=(zs.length:Int) - 1:=by unfold wrap64;omega
 gi_wp2
 gi_loopw [3] (fun i wr=>∃ (k:Nat) (pre:List (Fin zs.length)),k≤zs.length∧pre.length=zs.length - k∧i=.int .i64 ((k:Int) - 1)∧J pre wr∧Kq Bs b W wr)
   (fun i _=>(intOf i+1).toNat)
 case atStart=>exact ⟨zs.length,[],Nat.le_refl _,by simp,by first | rfl | simp [hw],h0,Kq.refl _ _ _⟩
 case round =>
   obtain ⟨k,pre,hk,hp,rfl,hJs,hnx⟩:=hrel
   have hBs':wr.cell? ⟨Bs,0,none⟩=some (.slice (some ⟨b,0,none⟩) zs.length cap):=(hnx.cB 0).trans hBs
   rcases Nat.eq_zero_or_pos k with hk0 | hk0
   · subst hk0
     gi_wp2
     go_end0
     exact ⟨⟨_,rfl⟩,.inl ⟨pre,True.intro,hJs⟩⟩
   · obtain ⟨j,rfl⟩:∃ j,k=j+1:=⟨k - 1,by omega⟩
     have hj:j < zs.length:=by omega
     obtain ⟨fn,tmps,assign,body,hy,hR⟩:=hY pre ⟨j,hj⟩ wr hJs (by omega)
     have he:((j+1:Nat):Int) - 1=(j:Int):=by omega
     rw [he]
     have hcx:wr.cell? ⟨b,j,none⟩=some zs[j]:=(hnx.cb j).trans (hc j hj)
     have hw2:wrap64 ((j:Int) - 1)=(j:Int) - 1:=by unfold wrap64;omega
     simp only [backEnc] at hy
     gi_wp2
     refine hR.mono ?_
     rintro e W3 (⟨rfl,hJ3,hk3⟩ | ⟨rfl,hJx3⟩)
     · gi_wp2
       go_roundw
       case rel=>exact ⟨j,_,by omega,by (have:=hp;simp <;> omega),by first | rfl | simp [hw2],hJ3,hnx.trans hk3⟩
       case measure=>simp [intOf] <;> omega
     · gi_wp2
       refine bodyPost_ret (results_none rfl _ _ _) rfl ?_
       exact ⟨⟨_,rfl⟩,.inr ⟨_,True.intro,hJx3⟩⟩
theorem backq_stops (F:Fence) (n:Nat) (h8:F.fn 134) (hro:F.round=none) (hn:1≤n) (Bs n₀ b cap:Nat) (zs:List Value) (hreach:zs.length≤20000000) (w:World) (hBs:Bs < n₀) (hb:b < n₀) (hn₀:n₀≤w.heap.size)
   (hc:w.cell? ⟨Bs,0,none⟩=some (.slice (some ⟨b,0,none⟩) zs.length cap)) (hI:∀ j (h:j < zs.length),w.cell? ⟨b,j,none⟩=some zs[j]) :
   SeqStopsK F n Tryz.prog 134 #[.pointer (some ⟨Bs,0,none⟩)] (backEnc zs) (Kq Bs b) (fun _=>True) (fun _=>True) zs.length w:=fun l J Jx W hW _ _ hY h0 =>
 backq1_in F n h8 hro hn l Bs b cap zs hreach J Jx hY W (((hW.mono hn₀).cell (p:=⟨Bs,0,none⟩) hBs).trans hc) (fun j h=>((hW.mono hn₀).cell (p:=⟨b,j,none⟩) hb).trans (hI j h)) h0
end
end Go.Proofs.YtifkpibjeamfkaaGreatFmt
