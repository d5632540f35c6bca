/-
  Position.add at a bracket; Span of every expression.
-/
import Derived.Test.YtifkpibjeamfkaaGreatFmtZ24
import Derived.Test.YtifkpibjeamfkaaGreatFmtZ10
set_option linter.unusedVariables false
set_option linter.unusedSimpArgs false
set_option maxRecDepth 100000
namespace Go.Proofs.YtifkpibjeamfkaaGreatFmt
section
open Go.RowKit Go.Proofs
theorem zzCount_rp (w:World):Calls Tryz.prog 217 #[.string ⟨#[41]⟩,.string ⟨#[10]⟩] w fun e w'=>e=.returned (.int .i64 0)∧w=w':=by
 have hx:((({ data:=#[41] }:ByteArray).extract 0 1).toList == [10])=false:=by kernel_rfl
 go_enter Tryz.func217,Tryz.ntmps217
 go_wp2_with fail
 refine wp_loop_rounds 2 ?_
 rw [rounds_succ]
 go_wp2_with fail
 rw [rounds_succ]
 go_wp2_with fail
 go_returns
 exact ⟨rfl,rfl⟩
theorem runeCount_rp (w:World):Calls Tryz.prog 219 #[.string ⟨#[41]⟩] w fun e w'=>e=.returned (.int .i64 1)∧Below w.heap.size w w':=by
 have hu:Tryz.prog.underlying 9=some .string:=by kernel_rfl
 have hrs:∀ (W:World),(Instr.range 9 (.string ⟨#[41]⟩)).run Tryz.prog W=.ok (.pointer (some ⟨W.heap.size,0,none⟩)) (W.iter ⟨#[41]⟩ 0):=fun W=>run_range_string W _ _ hu
 have hn:∀ ty,(Instr.next (.pointer (some ⟨w.heap.size,0,none⟩)) true ty).run Tryz.prog (w.iter ⟨#[41]⟩ 0)=.ok (.tuple #[.bool true,.int .i64 0,.int .i32 (bt ⟨#[41]⟩ 0:Nat)]) (w.iter ⟨#[41]⟩ (0+1)):=by
   intro ty
   rw [run_next_ascii w ⟨#[41]⟩ 0 ty (by decide) (by rw [bt_get];decide),bt_get]
   rfl
 have hn2:∀ ty,(Instr.next (.pointer (some ⟨w.heap.size,0,none⟩)) true ty).run Tryz.prog (w.iter ⟨#[41]⟩ 1)=.ok (.tuple #[.bool false]) (w.iter ⟨#[41]⟩ 1):=fun ty=>run_next_end w ⟨#[41]⟩ 1 ty (by decide)
 have hbel:Below w.heap.size w (w.iter ⟨#[41]⟩ 1):=(Below.refl _ w).alloc (Nat.le_refl _) _
 go_enter Tryz.func219,Tryz.ntmps219
 go_wp2_with fail
 refine wp_loop_rounds 2 ?_
 rw [rounds_succ]
 go_wp2_with fail
 rw [rounds_succ]
 go_wp2_with fail
 go_returns
 exact ⟨rfl,hbel⟩
def IsI (v:Option Value):Prop:=∃ n:Int,v=some (.int .i64 n)
theorem posAdd_rp (w:World) (a b c:Int):Calls Tryz.prog 215 #[posV a b c,.string ⟨#[41]⟩] w fun e w'=>(∃ b' c',e=.returned (posV a b' c'))∧Below w.heap.size w w':=by
 unfold posV
 go_enter Tryz.func215,Tryz.ntmps215
 go_wp2_with fail
 refine (zzCount_rp _).mono ?_
 rintro e w1 ⟨rfl,rfl⟩
 go_wp2_with fail
 have hbA:Below w.heap.size w ((w.alloc (Obj.cells #[Value.int IntKind.i64 a,Value.int IntKind.i64 b,Value.int IntKind.i64 (wrap64 (c+1))] 134)).alloc (Obj.cells #[Value.int IntKind.i64 0,Value.int IntKind.i64 0,Value.int IntKind.i64 0] 134)) :=
   ((Below.refl _ w).alloc (Nat.le_refl _) _).alloc (by simp) _
 have p2:=(Blk.new w 134 #[Value.int IntKind.i64 a,Value.int IntKind.i64 b,Value.int IntKind.i64 (wrap64 (c+1))]).alloc (Obj.cells #[Value.int IntKind.i64 0,Value.int IntKind.i64 0,Value.int IntKind.i64 0] 134)
 have p3:=Blk.new (w.alloc (Obj.cells #[Value.int IntKind.i64 a,Value.int IntKind.i64 b,Value.int IntKind.i64 (wrap64 (c+1))] 134)) 134 #[Value.int IntKind.i64 0,Value.int IntKind.i64 0,Value.int IntKind.i64 0]
 rw [show (w.alloc (Obj.cells #[Value.int IntKind.i64 a,Value.int IntKind.i64 b,Value.int IntKind.i64 (wrap64 (c+1))] 134)).heap.size=w.heap.size+1 from by simp] at p3
 change Code.wp _ _ _ _ ((w.alloc (Obj.cells #[Value.int IntKind.i64 a,Value.int IntKind.i64 b,Value.int IntKind.i64 (wrap64 (c+1))] 134)).alloc (Obj.cells #[Value.int IntKind.i64 0,Value.int IntKind.i64 0,Value.int IntKind.i64 0] 134))
 generalize ((w.alloc (Obj.cells #[Value.int IntKind.i64 a,Value.int IntKind.i64 b,Value.int IntKind.i64 (wrap64 (c+1))] 134)).alloc (Obj.cells #[Value.int IntKind.i64 0,Value.int IntKind.i64 0,Value.int IntKind.i64 0] 134))=W at hbA p2 p3 ⊢
 generalize wrap64 (c+1)=c1 at p2 ⊢
 have q1:W.cell? ⟨w.heap.size,1,none⟩=some (.int .i64 b):=p2.cell 1 rfl
 have HB:=hide hbA
 have P2:=hide p2
 have P3:=hide p3
 clear hbA p2 p3
 change Code.wp _ (Code.region _ #[_,id _,_,_,_,_,_] _) _ _ _
 go_region_held3 (fun w'=>True) (trivial)
   ((refine (runeCount_rp _).mono ?_;rintro e w4 ⟨rfl,hb5⟩;have hb4:Below W.heap.size W w4:=((Below.refl W.heap.size W).drew).trans hb5;have y2:=P2.out.kept (Kp.of_below (X:=fun _=>False) hb4) (fun h=>h);have y3:=P3.out.kept (Kp.of_below (X:=fun _=>False) hb4) (fun h=>h);have v1:w4.cell? ⟨w.heap.size,1,none⟩=some (.int .i64 b):=y2.cell 1 rfl;have v0:w4.cell? ⟨w.heap.size,0,none⟩=some (.int .i64 a):=y2.cell 0 rfl;have v2:w4.cell? ⟨w.heap.size,2,none⟩=some (.int .i64 c1):=y2.cell 2 rfl;have z0:w4.cell? ⟨w.heap.size+1,0,none⟩=some (.int .i64 0):=y3.cell 0 rfl;have z1:w4.cell? ⟨w.heap.size+1,1,none⟩=some (.int .i64 0):=y3.cell 1 rfl;have z2:w4.cell? ⟨w.heap.size+1,2,none⟩=some (.int .i64 0):=y3.cell 2 rfl;have zf:∀ j,w4.frozen? ⟨w.heap.size+1,j,none⟩=false:=fun j=>y3.free j;have vf:∀ j,w4.frozen? ⟨w.heap.size,j,none⟩=false:=fun j=>y2.free j;have lz:w.heap.size+1 < w4.heap.size:=y3.lt;have HB4:=hide (HB.out.trans (hb4.mono HB.out.size));have Y2:=hide y2;have Y3:=hide y3;clear hb5 hb4 y2 y3))
 all_goals go_wp2_with fail
 all_goals
   have bx3:=(((Y3.out.set_other (a:=⟨w.heap.size,1,none⟩) (by simp) (.int .i64 (wrap64 (b+1)))).set 0 (.int .i64 a)).set 1 (.int .i64 (wrap64 (b+1)))).set 2 (.int .i64 c1)
   have hb6:Below w.heap.size w ((((w4.setCell ⟨w.heap.size,1,none⟩ (.int .i64 (wrap64 (b+1)))).setCell ⟨w.heap.size+1,0,none⟩ (.int .i64 a)).setCell ⟨w.heap.size+1,1,none⟩ (.int .i64 (wrap64 (b+1)))).setCell ⟨w.heap.size+1,2,none⟩ (.int .i64 c1)) :=
     (((HB4.out.setCell (p:=⟨w.heap.size,1,none⟩) (Nat.le_refl _) _).setCell (p:=⟨w.heap.size+1,0,none⟩) (Nat.le_succ _) _).setCell (p:=⟨w.heap.size+1,1,none⟩) (Nat.le_succ _) _).setCell (p:=⟨w.heap.size+1,2,none⟩) (Nat.le_succ _) _
   generalize ((((w4.setCell ⟨w.heap.size,1,none⟩ (.int .i64 (wrap64 (b+1)))).setCell ⟨w.heap.size+1,0,none⟩ (.int .i64 a)).setCell ⟨w.heap.size+1,1,none⟩ (.int .i64 (wrap64 (b+1)))).setCell ⟨w.heap.size+1,2,none⟩ (.int .i64 c1))=W6 at bx3 hb6 ⊢
   have l0:W6.cell? ⟨w.heap.size+1,0,none⟩=some (.int .i64 a):=bx3.cell 0 rfl
   have l1:W6.cell? ⟨w.heap.size+1,1,none⟩=some (.int .i64 (wrap64 (b+1))):=bx3.cell 1 rfl
   have l2:W6.cell? ⟨w.heap.size+1,2,none⟩=some (.int .i64 c1):=bx3.cell 2 rfl
   refine bodyPost_ret (v:=posV a (wrap64 (b+1)) c1) (by simp [results,Tryz.results215,go_sem,posV,l0,l1,l2]) rfl ⟨⟨_,_,rfl⟩,hb6⟩
theorem posAdd_rp' (w:World) (a b c:Int):Calls Tryz.prog 215 #[.agg #[.int .i64 a,.int .i64 b,.int .i64 c],.string ⟨#[41]⟩] w fun e w'=>(∃ b' c',e=.returned (.agg #[.int .i64 a,.int .i64 b',.int .i64 c']))∧Below w.heap.size w w':=posAdd_rp w a b c
def SpanP (w:World) (e:Ending) (w':World):Prop:=(∃ a1 a2 a3 b1 b2 b3:Int,e=.returned (.tuple #[posV a1 a2 a3,posV b1 b2 b3]))∧Below w.heap.size w w'
theorem span_cb (w:World) (L:Nat) (cs:Array Value) (hL:Blk w L 201 cs) (i3:IsI cs[3]?) (i4:IsI cs[4]?) (i5:IsI cs[5]?) :
   Calls Tryz.prog 225 #[.pointer (some ⟨L,0,none⟩)] w (SpanP w):=by
 obtain ⟨a1,h3⟩:=i3
 obtain ⟨a2,h4⟩:=i4
 obtain ⟨a3,h5⟩:=i5
 have c3:=hL.cell 3 h3
 have c4:=hL.cell 4 h4
 have c5:=hL.cell 5 h5
 have hlt:=hL.lt
 have n1:w.heap.size≠L:=by omega
 have n2:w.heap.size+1≠L:=by omega
 unfold SpanP
 go_enter Tryz.func225,Tryz.ntmps225
 go_wp2
 go_region_held3 (fun w'=>w'.cell? ⟨L,3,none⟩=some (.int .i64 a1)∧w'.cell? ⟨L,4,none⟩=some (.int .i64 a2)∧w'.cell? ⟨L,5,none⟩=some (.int .i64 a3)) (go_keep) (fail)
 all_goals go_wp2
 all_goals
   refine bodyPost_ret (v:=.tuple #[posV a1 a2 a3,posV a1 a2 a3]) (by simp [results,Tryz.results225,go_sem,posV]) rfl ⟨⟨_,_,_,_,_,_,rfl⟩,?_⟩
   exact (((Below.refl _ w).alloc (Nat.le_refl _) _).alloc (by simp) _).drew
theorem span_lp (w:World) (L:Nat) (cs:Array Value) (hL:Blk w L 143 cs) (i9:IsI cs[9]?) (i10:IsI cs[10]?) (i11:IsI cs[11]?) :
   Calls Tryz.prog 228 #[.pointer (some ⟨L,6,none⟩)] w (SpanP w):=by
 obtain ⟨x9,h9⟩:=i9
 obtain ⟨x10,h10⟩:=i10
 obtain ⟨x11,h11⟩:=i11
 have hlt:=hL.lt
 have HL:=hide hL
 have hbA:Below w.heap.size w ((w.alloc (Obj.cells #[Value.int IntKind.i64 0,Value.int IntKind.i64 0,Value.int IntKind.i64 0] 134)).alloc (Obj.cells #[Value.int IntKind.i64 0,Value.int IntKind.i64 0,Value.int IntKind.i64 0] 134)):=((Below.refl _ w).alloc (Nat.le_refl _) _).alloc (by simp) _
 have p2:=(Blk.new w 134 #[Value.int IntKind.i64 0,Value.int IntKind.i64 0,Value.int IntKind.i64 0]).alloc (Obj.cells #[Value.int IntKind.i64 0,Value.int IntKind.i64 0,Value.int IntKind.i64 0] 134)
 have p3:=Blk.new (w.alloc (Obj.cells #[Value.int IntKind.i64 0,Value.int IntKind.i64 0,Value.int IntKind.i64 0] 134)) 134 #[Value.int IntKind.i64 0,Value.int IntKind.i64 0,Value.int IntKind.i64 0]
 rw [show (w.alloc (Obj.cells #[Value.int IntKind.i64 0,Value.int IntKind.i64 0,Value.int IntKind.i64 0] 134)).heap.size=w.heap.size+1 from by simp] at p3
 have n1:w.heap.size≠L:=by omega
 have n2:w.heap.size+1≠L:=by omega
 have n1':=n1.symm
 have n2':=n2.symm
 clear hL
 unfold SpanP
 go_enter Tryz.func228,Tryz.ntmps228
 go_wp2_with fail
 change Code.wp _ _ _ _ ((w.alloc (Obj.cells #[Value.int IntKind.i64 0,Value.int IntKind.i64 0,Value.int IntKind.i64 0] 134)).alloc (Obj.cells #[Value.int IntKind.i64 0,Value.int IntKind.i64 0,Value.int IntKind.i64 0] 134))
 generalize ((w.alloc (Obj.cells #[Value.int IntKind.i64 0,Value.int IntKind.i64 0,Value.int IntKind.i64 0] 134)).alloc (Obj.cells #[Value.int IntKind.i64 0,Value.int IntKind.i64 0,Value.int IntKind.i64 0] 134))=W at hbA p2 p3 ⊢
 have HLW:=hide (HL.out.kept (Kp.of_below (X:=fun _=>False) hbA) (fun h=>h))
 have c9:=HLW.out.cell 9 h9
 have c10:=HLW.out.cell 10 h10
 have c11:=HLW.out.cell 11 h11
 have HB:=hide hbA
 have P2:=hide p2
 have P3:=hide p3
 clear hbA p2 p3
 go_region_held3 (fun w'=>w'.cell? ⟨L,9,none⟩=some (.int .i64 x9)∧w'.cell? ⟨L,10,none⟩=some (.int .i64 x10)∧w'.cell? ⟨L,11,none⟩=some (.int .i64 x11)) (go_keep)
   ((go_fit (posAdd_rp' W.drew x9 x10 x11);rintro e w4 ⟨⟨k1,k2,rfl⟩,hb5⟩;have hb4:Below W.heap.size W w4:=((Below.refl W.heap.size W).drew).trans hb5;have y2:=P2.out.kept (Kp.of_below (X:=fun _=>False) hb4) (fun h=>h);have y3:=P3.out.kept (Kp.of_below (X:=fun _=>False) hb4) (fun h=>h);have yL:=HLW.out.kept (Kp.of_below (X:=fun _=>False) hb4) (fun h=>h);have d9:=yL.cell 9 h9;have d10:=yL.cell 10 h10;have d11:=yL.cell 11 h11;have z0:w4.cell? ⟨w.heap.size,0,none⟩=some (.int .i64 0):=y2.cell 0 rfl;have u0:w4.cell? ⟨w.heap.size+1,0,none⟩=some (.int .i64 0):=y3.cell 0 rfl;have z1:w4.cell? ⟨w.heap.size,1,none⟩=some (.int .i64 0):=y2.cell 1 rfl;have u1:w4.cell? ⟨w.heap.size+1,1,none⟩=some (.int .i64 0):=y3.cell 1 rfl;have z2:w4.cell? ⟨w.heap.size,2,none⟩=some (.int .i64 0):=y2.cell 2 rfl;have u2:w4.cell? ⟨w.heap.size+1,2,none⟩=some (.int .i64 0):=y3.cell 2 rfl;have zf:∀ j,w4.frozen? ⟨w.heap.size,j,none⟩=false:=fun j=>y2.free j;have uf:∀ j,w4.frozen? ⟨w.heap.size+1,j,none⟩=false:=fun j=>y3.free j;have lz:w.heap.size+1 < w4.heap.size:=y3.lt;have HB4:=hide (HB.out.trans (hb4.mono HB.out.size));have Y2:=hide y2;have Y3:=hide y3;clear hb5 hb4 y2 y3 yL))
 all_goals go_wp2_with fail
 all_goals
   have bx2:Blk ((((((w4.setCell ⟨w.heap.size,0,none⟩ (.int .i64 x9)).setCell ⟨w.heap.size,1,none⟩ (.int .i64 x10)).setCell ⟨w.heap.size,2,none⟩ (.int .i64 x11)).setCell ⟨w.heap.size+1,0,none⟩ (.int .i64 x9)).setCell ⟨w.heap.size+1,1,none⟩ (.int .i64 k1)).setCell ⟨w.heap.size+1,2,none⟩ (.int .i64 k2)) w.heap.size 134 #[.int .i64 x9,.int .i64 x10,.int .i64 x11]:=(((((((Y2.out.set 0 (.int .i64 x9)).set 1 (.int .i64 x10)).set 2 (.int .i64 x11)).set_other (a:=⟨w.heap.size+1,0,none⟩) (by simp) (.int .i64 x9)).set_other (a:=⟨w.heap.size+1,1,none⟩) (by simp) (.int .i64 k1)).set_other (a:=⟨w.heap.size+1,2,none⟩) (by simp) (.int .i64 k2))).eq (by simp)
   have bx3:Blk ((((((w4.setCell ⟨w.heap.size,0,none⟩ (.int .i64 x9)).setCell ⟨w.heap.size,1,none⟩ (.int .i64 x10)).setCell ⟨w.heap.size,2,none⟩ (.int .i64 x11)).setCell ⟨w.heap.size+1,0,none⟩ (.int .i64 x9)).setCell ⟨w.heap.size+1,1,none⟩ (.int .i64 k1)).setCell ⟨w.heap.size+1,2,none⟩ (.int .i64 k2)) (w.heap.size+1) 134 #[.int .i64 x9,.int .i64 k1,.int .i64 k2]:=(((((((Y3.out.set_other (a:=⟨w.heap.size,0,none⟩) (by simp) (.int .i64 x9)).set_other (a:=⟨w.heap.size,1,none⟩) (by simp) (.int .i64 x10)).set_other (a:=⟨w.heap.size,2,none⟩) (by simp) (.int .i64 x11)).set 0 (.int .i64 x9)).set 1 (.int .i64 k1)).set 2 (.int .i64 k2))).eq (by simp)
   have hb6:Below w.heap.size w ((((((w4.setCell ⟨w.heap.size,0,none⟩ (.int .i64 x9)).setCell ⟨w.heap.size,1,none⟩ (.int .i64 x10)).setCell ⟨w.heap.size,2,none⟩ (.int .i64 x11)).setCell ⟨w.heap.size+1,0,none⟩ (.int .i64 x9)).setCell ⟨w.heap.size+1,1,none⟩ (.int .i64 k1)).setCell ⟨w.heap.size+1,2,none⟩ (.int .i64 k2)):=((((((HB4.out.setCell (p:=⟨w.heap.size,0,none⟩) (Nat.le_refl _) _).setCell (p:=⟨w.heap.size,1,none⟩) (Nat.le_refl _) _).setCell (p:=⟨w.heap.size,2,none⟩) (Nat.le_refl _) _).setCell (p:=⟨w.heap.size+1,0,none⟩) (Nat.le_succ _) _).setCell (p:=⟨w.heap.size+1,1,none⟩) (Nat.le_succ _) _).setCell (p:=⟨w.heap.size+1,2,none⟩) (Nat.le_succ _) _)
   generalize ((((((w4.setCell ⟨w.heap.size,0,none⟩ (.int .i64 x9)).setCell ⟨w.heap.size,1,none⟩ (.int .i64 x10)).setCell ⟨w.heap.size,2,none⟩ (.int .i64 x11)).setCell ⟨w.heap.size+1,0,none⟩ (.int .i64 x9)).setCell ⟨w.heap.size+1,1,none⟩ (.int .i64 k1)).setCell ⟨w.heap.size+1,2,none⟩ (.int .i64 k2))=W6 at bx2 bx3 hb6 ⊢
   have m0:=bx2.cell 0 rfl
   have l0:=bx3.cell 0 rfl
   have m1:=bx2.cell 1 rfl
   have l1:=bx3.cell 1 rfl
   have m2:=bx2.cell 2 rfl
   have l2:=bx3.cell 2 rfl
   refine bodyPost_ret (v:=.tuple #[posV x9 x10 x11,posV x9 k1 k2]) (by simp [results,Tryz.results228,go_sem,posV,m0,m1,m2,l0,l1,l2]) rfl ⟨⟨_,_,_,_,_,_,rfl⟩,hb6⟩
theorem span_rp (w:World) (L:Nat) (cs:Array Value) (hL:Blk w L 143 cs) (i17:IsI cs[17]?) (i18:IsI cs[18]?) (i19:IsI cs[19]?) :
   Calls Tryz.prog 229 #[.pointer (some ⟨L,14,none⟩)] w (SpanP w):=by
 obtain ⟨x17,h17⟩:=i17
 obtain ⟨x18,h18⟩:=i18
 obtain ⟨x19,h19⟩:=i19
 have hlt:=hL.lt
 have HL:=hide hL
 have hbA:Below w.heap.size w ((w.alloc (Obj.cells #[Value.int IntKind.i64 0,Value.int IntKind.i64 0,Value.int IntKind.i64 0] 134)).alloc (Obj.cells #[Value.int IntKind.i64 0,Value.int IntKind.i64 0,Value.int IntKind.i64 0] 134)):=((Below.refl _ w).alloc (Nat.le_refl _) _).alloc (by simp) _
 have p2:=(Blk.new w 134 #[Value.int IntKind.i64 0,Value.int IntKind.i64 0,Value.int IntKind.i64 0]).alloc (Obj.cells #[Value.int IntKind.i64 0,Value.int IntKind.i64 0,Value.int IntKind.i64 0] 134)
 have p3:=Blk.new (w.alloc (Obj.cells #[Value.int IntKind.i64 0,Value.int IntKind.i64 0,Value.int IntKind.i64 0] 134)) 134 #[Value.int IntKind.i64 0,Value.int IntKind.i64 0,Value.int IntKind.i64 0]
 rw [show (w.alloc (Obj.cells #[Value.int IntKind.i64 0,Value.int IntKind.i64 0,Value.int IntKind.i64 0] 134)).heap.size=w.heap.size+1 from by simp] at p3
 have n1:w.heap.size≠L:=by omega
 have n2:w.heap.size+1≠L:=by omega
 have n1':=n1.symm
 have n2':=n2.symm
 clear hL
 unfold SpanP
 go_enter Tryz.func229,Tryz.ntmps229
 go_wp2_with fail
 change Code.wp _ _ _ _ ((w.alloc (Obj.cells #[Value.int IntKind.i64 0,Value.int IntKind.i64 0,Value.int IntKind.i64 0] 134)).alloc (Obj.cells #[Value.int IntKind.i64 0,Value.int IntKind.i64 0,Value.int IntKind.i64 0] 134))
 generalize ((w.alloc (Obj.cells #[Value.int IntKind.i64 0,Value.int IntKind.i64 0,Value.int IntKind.i64 0] 134)).alloc (Obj.cells #[Value.int IntKind.i64 0,Value.int IntKind.i64 0,Value.int IntKind.i64 0] 134))=W at hbA p2 p3 ⊢
 have HLW:=hide (HL.out.kept (Kp.of_below (X:=fun _=>False) hbA) (fun h=>h))
 have c17:=HLW.out.cell 17 h17
 have c18:=HLW.out.cell 18 h18
 have c19:=HLW.out.cell 19 h19
 have HB:=hide hbA
 have P2:=hide p2
 have P3:=hide p3
 clear hbA p2 p3
 go_region_held3 (fun w'=>w'.cell? ⟨L,17,none⟩=some (.int .i64 x17)∧w'.cell? ⟨L,18,none⟩=some (.int .i64 x18)∧w'.cell? ⟨L,19,none⟩=some (.int .i64 x19)) (go_keep)
   ((go_fit (posAdd_rp' W.drew x17 x18 x19);rintro e w4 ⟨⟨k1,k2,rfl⟩,hb5⟩;have hb4:Below W.heap.size W w4:=((Below.refl W.heap.size W).drew).trans hb5;have y2:=P2.out.kept (Kp.of_below (X:=fun _=>False) hb4) (fun h=>h);have y3:=P3.out.kept (Kp.of_below (X:=fun _=>False) hb4) (fun h=>h);have yL:=HLW.out.kept (Kp.of_below (X:=fun _=>False) hb4) (fun h=>h);have d17:=yL.cell 17 h17;have d18:=yL.cell 18 h18;have d19:=yL.cell 19 h19;have z0:w4.cell? ⟨w.heap.size,0,none⟩=some (.int .i64 0):=y2.cell 0 rfl;have u0:w4.cell? ⟨w.heap.size+1,0,none⟩=some (.int .i64 0):=y3.cell 0 rfl;have z1:w4.cell? ⟨w.heap.size,1,none⟩=some (.int .i64 0):=y2.cell 1 rfl;have u1:w4.cell? ⟨w.heap.size+1,1,none⟩=some (.int .i64 0):=y3.cell 1 rfl;have z2:w4.cell? ⟨w.heap.size,2,none⟩=some (.int .i64 0):=y2.cell 2 rfl;have u2:w4.cell? ⟨w.heap.size+1,2,none⟩=some (.int .i64 0):=y3.cell 2 rfl;have zf:∀ j,w4.frozen? ⟨w.heap.size,j,none⟩=false:=fun j=>y2.free j;have uf:∀ j,w4.frozen? ⟨w.heap.size+1,j,none⟩=false:=fun j=>y3.free j;have lz:w.heap.size+1 < w4.heap.size:=y3.lt;have HB4:=hide (HB.out.trans (hb4.mono HB.out.size));have Y2:=hide y2;have Y3:=hide y3;clear hb5 hb4 y2 y3 yL))
 all_goals go_wp2_with fail
 all_goals
   have bx2:Blk ((((((w4.setCell ⟨w.heap.size,0,none⟩ (.int .i64 x17)).setCell ⟨w.heap.size,1,none⟩ (.int .i64 x18)).setCell ⟨w.heap.size,2,none⟩ (.int .i64 x19)).setCell ⟨w.heap.size+1,0,none⟩ (.int .i64 x17)).setCell ⟨w.heap.size+1,1,none⟩ (.int .i64 k1)).setCell ⟨w.heap.size+1,2,none⟩ (.int .i64 k2)) w.heap.size 134 #[.int .i64 x17,.int .i64 x18,.int .i64 x19]:=(((((((Y2.out.set 0 (.int .i64 x17)).set 1 (.int .i64 x18)).set 2 (.int .i64 x19)).set_other (a:=⟨w.heap.size+1,0,none⟩) (by simp) (.int .i64 x17)).set_other (a:=⟨w.heap.size+1,1,none⟩) (by simp) (.int .i64 k1)).set_other (a:=⟨w.heap.size+1,2,none⟩) (by simp) (.int .i64 k2))).eq (by simp)
   have bx3:Blk ((((((w4.setCell ⟨w.heap.size,0,none⟩ (.int .i64 x17)).setCell ⟨w.heap.size,1,none⟩ (.int .i64 x18)).setCell ⟨w.heap.size,2,none⟩ (.int .i64 x19)).setCell ⟨w.heap.size+1,0,none⟩ (.int .i64 x17)).setCell ⟨w.heap.size+1,1,none⟩ (.int .i64 k1)).setCell ⟨w.heap.size+1,2,none⟩ (.int .i64 k2)) (w.heap.size+1) 134 #[.int .i64 x17,.int .i64 k1,.int .i64 k2]:=(((((((Y3.out.set_other (a:=⟨w.heap.size,0,none⟩) (by simp) (.int .i64 x17)).set_other (a:=⟨w.heap.size,1,none⟩) (by simp) (.int .i64 x18)).set_other (a:=⟨w.heap.size,2,none⟩) (by simp) (.int .i64 x19)).set 0 (.int .i64 x17)).set 1 (.int .i64 k1)).set 2 (.int .i64 k2))).eq (by simp)
   have hb6:Below w.heap.size w ((((((w4.setCell ⟨w.heap.size,0,none⟩ (.int .i64 x17)).setCell ⟨w.heap.size,1,none⟩ (.int .i64 x18)).setCell ⟨w.heap.size,2,none⟩ (.int .i64 x19)).setCell ⟨w.heap.size+1,0,none⟩ (.int .i64 x17)).setCell ⟨w.heap.size+1,1,none⟩ (.int .i64 k1)).setCell ⟨w.heap.size+1,2,none⟩ (.int .i64 k2)):=((((((HB4.out.setCell (p:=⟨w.heap.size,0,none⟩) (Nat.le_refl _) _).setCell (p:=⟨w.heap.size,1,none⟩) (Nat.le_refl _) _).setCell (p:=⟨w.heap.size,2,none⟩) (Nat.le_refl _) _).setCell (p:=⟨w.heap.size+1,0,none⟩) (Nat.le_succ _) _).setCell (p:=⟨w.heap.size+1,1,none⟩) (Nat.le_succ _) _).setCell (p:=⟨w.heap.size+1,2,none⟩) (Nat.le_succ _) _)
   generalize ((((((w4.setCell ⟨w.heap.size,0,none⟩ (.int .i64 x17)).setCell ⟨w.heap.size,1,none⟩ (.int .i64 x18)).setCell ⟨w.heap.size,2,none⟩ (.int .i64 x19)).setCell ⟨w.heap.size+1,0,none⟩ (.int .i64 x17)).setCell ⟨w.heap.size+1,1,none⟩ (.int .i64 k1)).setCell ⟨w.heap.size+1,2,none⟩ (.int .i64 k2))=W6 at bx2 bx3 hb6 ⊢
   have m0:=bx2.cell 0 rfl
   have l0:=bx3.cell 0 rfl
   have m1:=bx2.cell 1 rfl
   have l1:=bx3.cell 1 rfl
   have m2:=bx2.cell 2 rfl
   have l2:=bx3.cell 2 rfl
   refine bodyPost_ret (v:=.tuple #[posV x17 x18 x19,posV x17 k1 k2]) (by simp [results,Tryz.results229,go_sem,posV,m0,m1,m2,l0,l1,l2]) rfl ⟨⟨_,_,_,_,_,_,rfl⟩,hb6⟩
theorem span_bk (w:World) (L:Nat) (cs:Array Value) (hL:Blk w L 143 cs) (i3:IsI cs[3]?) (i4:IsI cs[4]?) (i5:IsI cs[5]?) (i17:IsI cs[17]?) (i18:IsI cs[18]?) (i19:IsI cs[19]?) :
   Calls Tryz.prog 216 #[.pointer (some ⟨L,0,none⟩)] w (SpanP w):=by
 obtain ⟨x3,h3⟩:=i3
 obtain ⟨x4,h4⟩:=i4
 obtain ⟨x5,h5⟩:=i5
 obtain ⟨x17,h17⟩:=i17
 obtain ⟨x18,h18⟩:=i18
 obtain ⟨x19,h19⟩:=i19
 have hlt:=hL.lt
 have HL:=hide hL
 have hbA:Below w.heap.size w ((w.alloc (Obj.cells #[Value.int IntKind.i64 0,Value.int IntKind.i64 0,Value.int IntKind.i64 0] 134)).alloc (Obj.cells #[Value.int IntKind.i64 0,Value.int IntKind.i64 0,Value.int IntKind.i64 0] 134)):=((Below.refl _ w).alloc (Nat.le_refl _) _).alloc (by simp) _
 have p2:=(Blk.new w 134 #[Value.int IntKind.i64 0,Value.int IntKind.i64 0,Value.int IntKind.i64 0]).alloc (Obj.cells #[Value.int IntKind.i64 0,Value.int IntKind.i64 0,Value.int IntKind.i64 0] 134)
 have p3:=Blk.new (w.alloc (Obj.cells #[Value.int IntKind.i64 0,Value.int IntKind.i64 0,Value.int IntKind.i64 0] 134)) 134 #[Value.int IntKind.i64 0,Value.int IntKind.i64 0,Value.int IntKind.i64 0]
 rw [show (w.alloc (Obj.cells #[Value.int IntKind.i64 0,Value.int IntKind.i64 0,Value.int IntKind.i64 0] 134)).heap.size=w.heap.size+1 from by simp] at p3
 have n1:w.heap.size≠L:=by omega
 have n2:w.heap.size+1≠L:=by omega
 have n1':=n1.symm
 have n2':=n2.symm
 clear hL
 unfold SpanP
 go_enter Tryz.func216,Tryz.ntmps216
 go_wp2_with fail
 change Code.wp _ _ _ _ ((w.alloc (Obj.cells #[Value.int IntKind.i64 0,Value.int IntKind.i64 0,Value.int IntKind.i64 0] 134)).alloc (Obj.cells #[Value.int IntKind.i64 0,Value.int IntKind.i64 0,Value.int IntKind.i64 0] 134))
 generalize ((w.alloc (Obj.cells #[Value.int IntKind.i64 0,Value.int IntKind.i64 0,Value.int IntKind.i64 0] 134)).alloc (Obj.cells #[Value.int IntKind.i64 0,Value.int IntKind.i64 0,Value.int IntKind.i64 0] 134))=W at hbA p2 p3 ⊢
 have HLW:=hide (HL.out.kept (Kp.of_below (X:=fun _=>False) hbA) (fun h=>h))
 have c3:=HLW.out.cell 3 h3
 have c4:=HLW.out.cell 4 h4
 have c5:=HLW.out.cell 5 h5
 have c17:=HLW.out.cell 17 h17
 have c18:=HLW.out.cell 18 h18
 have c19:=HLW.out.cell 19 h19
 have HB:=hide hbA
 have P2:=hide p2
 have P3:=hide p3
 clear hbA p2 p3
 go_region_held3 (fun w'=>w'.cell? ⟨L,3,none⟩=some (.int .i64 x3)∧w'.cell? ⟨L,4,none⟩=some (.int .i64 x4)∧w'.cell? ⟨L,5,none⟩=some (.int .i64 x5)∧w'.cell? ⟨L,17,none⟩=some (.int .i64 x17)∧w'.cell? ⟨L,18,none⟩=some (.int .i64 x18)∧w'.cell? ⟨L,19,none⟩=some (.int .i64 x19)) (go_keep)
   ((go_fit (posAdd_rp' W.drew x17 x18 x19);rintro e w4 ⟨⟨k1,k2,rfl⟩,hb5⟩;have hb4:Below W.heap.size W w4:=((Below.refl W.heap.size W).drew).trans hb5;have y2:=P2.out.kept (Kp.of_below (X:=fun _=>False) hb4) (fun h=>h);have y3:=P3.out.kept (Kp.of_below (X:=fun _=>False) hb4) (fun h=>h);have yL:=HLW.out.kept (Kp.of_below (X:=fun _=>False) hb4) (fun h=>h);have d3:=yL.cell 3 h3;have d4:=yL.cell 4 h4;have d5:=yL.cell 5 h5;have d17:=yL.cell 17 h17;have d18:=yL.cell 18 h18;have d19:=yL.cell 19 h19;have z0:w4.cell? ⟨w.heap.size,0,none⟩=some (.int .i64 0):=y2.cell 0 rfl;have u0:w4.cell? ⟨w.heap.size+1,0,none⟩=some (.int .i64 0):=y3.cell 0 rfl;have z1:w4.cell? ⟨w.heap.size,1,none⟩=some (.int .i64 0):=y2.cell 1 rfl;have u1:w4.cell? ⟨w.heap.size+1,1,none⟩=some (.int .i64 0):=y3.cell 1 rfl;have z2:w4.cell? ⟨w.heap.size,2,none⟩=some (.int .i64 0):=y2.cell 2 rfl;have u2:w4.cell? ⟨w.heap.size+1,2,none⟩=some (.int .i64 0):=y3.cell 2 rfl;have zf:∀ j,w4.frozen? ⟨w.heap.size,j,none⟩=false:=fun j=>y2.free j;have uf:∀ j,w4.frozen? ⟨w.heap.size+1,j,none⟩=false:=fun j=>y3.free j;have lz:w.heap.size+1 < w4.heap.size:=y3.lt;have HB4:=hide (HB.out.trans (hb4.mono HB.out.size));have Y2:=hide y2;have Y3:=hide y3;clear hb5 hb4 y2 y3 yL))
 all_goals go_wp2_with fail
 all_goals
   have bx2:Blk ((((((w4.setCell ⟨w.heap.size,0,none⟩ (.int .i64 x3)).setCell ⟨w.heap.size,1,none⟩ (.int .i64 x4)).setCell ⟨w.heap.size,2,none⟩ (.int .i64 x5)).setCell ⟨w.heap.size+1,0,none⟩ (.int .i64 x17)).setCell ⟨w.heap.size+1,1,none⟩ (.int .i64 k1)).setCell ⟨w.heap.size+1,2,none⟩ (.int .i64 k2)) w.heap.size 134 #[.int .i64 x3,.int .i64 x4,.int .i64 x5]:=(((((((Y2.out.set 0 (.int .i64 x3)).set 1 (.int .i64 x4)).set 2 (.int .i64 x5)).set_other (a:=⟨w.heap.size+1,0,none⟩) (by simp) (.int .i64 x17)).set_other (a:=⟨w.heap.size+1,1,none⟩) (by simp) (.int .i64 k1)).set_other (a:=⟨w.heap.size+1,2,none⟩) (by simp) (.int .i64 k2))).eq (by simp)
   have bx3:Blk ((((((w4.setCell ⟨w.heap.size,0,none⟩ (.int .i64 x3)).setCell ⟨w.heap.size,1,none⟩ (.int .i64 x4)).setCell ⟨w.heap.size,2,none⟩ (.int .i64 x5)).setCell ⟨w.heap.size+1,0,none⟩ (.int .i64 x17)).setCell ⟨w.heap.size+1,1,none⟩ (.int .i64 k1)).setCell ⟨w.heap.size+1,2,none⟩ (.int .i64 k2)) (w.heap.size+1) 134 #[.int .i64 x17,.int .i64 k1,.int .i64 k2]:=(((((((Y3.out.set_other (a:=⟨w.heap.size,0,none⟩) (by simp) (.int .i64 x3)).set_other (a:=⟨w.heap.size,1,none⟩) (by simp) (.int .i64 x4)).set_other (a:=⟨w.heap.size,2,none⟩) (by simp) (.int .i64 x5)).set 0 (.int .i64 x17)).set 1 (.int .i64 k1)).set 2 (.int .i64 k2))).eq (by simp)
   have hb6:Below w.heap.size w ((((((w4.setCell ⟨w.heap.size,0,none⟩ (.int .i64 x3)).setCell ⟨w.heap.size,1,none⟩ (.int .i64 x4)).setCell ⟨w.heap.size,2,none⟩ (.int .i64 x5)).setCell ⟨w.heap.size+1,0,none⟩ (.int .i64 x17)).setCell ⟨w.heap.size+1,1,none⟩ (.int .i64 k1)).setCell ⟨w.heap.size+1,2,none⟩ (.int .i64 k2)):=((((((HB4.out.setCell (p:=⟨w.heap.size,0,none⟩) (Nat.le_refl _) _).setCell (p:=⟨w.heap.size,1,none⟩) (Nat.le_refl _) _).setCell (p:=⟨w.heap.size,2,none⟩) (Nat.le_refl _) _).setCell (p:=⟨w.heap.size+1,0,none⟩) (Nat.le_succ _) _).setCell (p:=⟨w.heap.size+1,1,none⟩) (Nat.le_succ _) _).setCell (p:=⟨w.heap.size+1,2,none⟩) (Nat.le_succ _) _)
   generalize ((((((w4.setCell ⟨w.heap.size,0,none⟩ (.int .i64 x3)).setCell ⟨w.heap.size,1,none⟩ (.int .i64 x4)).setCell ⟨w.heap.size,2,none⟩ (.int .i64 x5)).setCell ⟨w.heap.size+1,0,none⟩ (.int .i64 x17)).setCell ⟨w.heap.size+1,1,none⟩ (.int .i64 k1)).setCell ⟨w.heap.size+1,2,none⟩ (.int .i64 k2))=W6 at bx2 bx3 hb6 ⊢
   have m0:=bx2.cell 0 rfl
   have l0:=bx3.cell 0 rfl
   have m1:=bx2.cell 1 rfl
   have l1:=bx3.cell 1 rfl
   have m2:=bx2.cell 2 rfl
   have l2:=bx3.cell 2 rfl
   refine bodyPost_ret (v:=.tuple #[posV x3 x4 x5,posV x17 k1 k2]) (by simp [results,Tryz.results216,go_sem,posV,m0,m1,m2,l0,l1,l2]) rfl ⟨⟨_,_,_,_,_,_,rfl⟩,hb6⟩
end
end Go.Proofs.YtifkpibjeamfkaaGreatFmt
