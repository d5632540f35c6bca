/-
  parseReplace at the four shapes of a line.
-/
import Derived.Test.YtifkpibjeamfkaaGreatFmtZ31
set_option linter.unusedVariables false
set_option linter.unusedSimpArgs false
set_option maxRecDepth 100000
namespace Go.Proofs.YtifkpibjeamfkaaGreatFmt
section
open Go.RowKit Go.Proofs
def ErB (cs:Array Value):Prop:=∃ (nm:ByteArray) (a1 a2 a3:Int) (t:TypeId) (v:Value),cs=#[.string nm,.int .i64 a1,.int .i64 a2,.int .i64 a3,.string ⟨#[]⟩,.string ⟨#[]⟩,.iface t v]
def ErR (w:World) (e:Ending) (w':World):Prop:=∃ g cs,e=.returned (.pointer (some ⟨g,0,none⟩))∧Blk w' g 146 cs∧ErB cs∧Below w.heap.size w w'
set_option maxHeartbeats 1000000 in
theorem rep2_any (w:World) (v0 v1 L:Nat) (nm:ByteArray) (a1 a2 a3:Int) (t:TypeId) (v:Value) (h0:w.cell? ⟨v0,0,none⟩=some (.string nm)) (h1:w.cell? ⟨v1,0,none⟩=some (.pointer (some ⟨L,0,none⟩)))
   (h3:w.cell? ⟨L,3,none⟩=some (.int .i64 a1)) (h4:w.cell? ⟨L,4,none⟩=some (.int .i64 a2)) (h5:w.cell? ⟨L,5,none⟩=some (.int .i64 a3)) :
   Calls Tryz.prog 117 #[.iface t v,.pointer (some ⟨v0,0,none⟩),.pointer (some ⟨v1,0,none⟩)] w (ErR w):=by
 unfold ErR
 have w0:=World.new_ne w _ h0
 have w1:=World.new_ne w _ h1
 have w3:=World.new_ne w _ h3
 simp only at w0 w1 w3
 go_enter Tryz.func117,Tryz.ntmps117
 go_wp2_with fail
 go_region_held3 (fun w'=>w'.cell? ⟨v0,0,none⟩=some (.string nm)∧w'.cell? ⟨v1,0,none⟩=some (.pointer (some ⟨L,0,none⟩))∧w'.cell? ⟨L,3,none⟩=some (.int .i64 a1)∧w'.cell? ⟨L,4,none⟩=some (.int .i64 a2)∧w'.cell? ⟨L,5,none⟩=some (.int .i64 a3)) (go_keep)
   (fail)
 all_goals go_wp2_with fail
 all_goals go_returns
 all_goals exact ⟨_,_,rfl,(Blk.new w _ _).drew,⟨_,_,_,_,_,_,rfl⟩,((Below.refl _ w).alloc (Nat.le_refl _) _).drew⟩
structure RepW (w:World) (v0 L:Nat) (nm verb:ByteArray) (a1 a2 a3:Int):Prop where
 c0:w.cell? ⟨v0,0,none⟩=some (.string nm)
 c1:w.cell? ⟨v0+1,0,none⟩=some (.pointer (some ⟨L,0,none⟩))
 c2:w.cell? ⟨v0+1+1,0,none⟩=some (.string verb)
 c3:w.cell? ⟨v0+1+1+1,0,none⟩=some (.func (.func 117) #[] #[.pointer (some ⟨v0,0,none⟩),.pointer (some ⟨v0+1,0,none⟩)])
 l3:w.cell? ⟨L,3,none⟩=some (.int .i64 a1)
 l4:w.cell? ⟨L,4,none⟩=some (.int .i64 a2)
 l5:w.cell? ⟨L,5,none⟩=some (.int .i64 a3)
theorem RepW.below {w w':World} {v0 L:Nat} {nm verb:ByteArray} {a1 a2 a3:Int} (h:RepW w v0 L nm verb a1 a2 a3) (k:Below w.heap.size w w'):RepW w' v0 L nm verb a1 a2 a3:=by
 obtain ⟨c0,c1,c2,c3,l3,l4,l5⟩:=h
 exact ⟨(k.cell (World.block_lt_of_cell? w _ c0)).trans c0,(k.cell (World.block_lt_of_cell? w _ c1)).trans c1,(k.cell (World.block_lt_of_cell? w _ c2)).trans c2,(k.cell (World.block_lt_of_cell? w _ c3)).trans c3,
   (k.cell (World.block_lt_of_cell? w _ l3)).trans l3,(k.cell (World.block_lt_of_cell? w _ l4)).trans l4,(k.cell (World.block_lt_of_cell? w _ l5)).trans l5⟩
set_option maxHeartbeats 1000000 in
theorem rep3_any (w:World) (v0 L:Nat) (nm verb s:ByteArray) (a1 a2 a3:Int) (args:Value) (h:RepW w v0 L nm verb a1 a2 a3) :
   Calls Tryz.prog 118 #[.string s,args,.pointer (some ⟨v0+1+1+1,0,none⟩)] w (ErR w):=by
 unfold ErR
 have h3:=h.c3
 have HA:=hide h
 clear h
 have w3:=World.new_ne w _ h3
 simp only at w3
 go_enter Tryz.func118,Tryz.ntmps118
 go_wp2_with fail
 go_region_held3 (fun w'=>w'.cell? ⟨v0+1+1+1,0,none⟩=some (.func (.func 117) #[] #[.pointer (some ⟨v0,0,none⟩),.pointer (some ⟨v0+1,0,none⟩)])) (go_keep)
   (first
     | (go_at_call 53;refine (errors_new _ _).mono ?_;rintro e w1 ⟨rfl,rfl⟩;have hb1:Below w.heap.size w (w.drew.alloc (Obj.cells #[Value.string s] 182)):=(Below.refl _ w).drew.alloc (Nat.le_refl _) _;have HA1:=hide (HA.out.below hb1))
     | (go_at_call 117;go_fit (rep2_any _ v0 (v0+1) L nm a1 a2 a3 _ _ HA1.out.c0 HA1.out.c1 HA1.out.l3 HA1.out.l4 HA1.out.l5);rintro e w2 ⟨g,cs,rfl,hg,hsz,hb2⟩;have g3:=(HA1.out.below hb2).c3;have HG:=hide (And.intro hg (And.intro hsz (hb1.trans (hb2.mono hb1.size))))))
 all_goals go_wp2_with fail
 all_goals go_returns
 all_goals exact ⟨g,cs,rfl,HG.out.1,HG.out.2.1,HG.out.2.2⟩
def repVars (w:World) (L:Nat) (nm verb:ByteArray):World :=
 (((w.alloc (Obj.cells #[.string nm] 9)).alloc (Obj.cells #[.pointer (some ⟨L,0,none⟩)] 92)).alloc (Obj.cells #[.string verb] 9)).alloc (Obj.cells #[.func (.func 117) #[] #[.pointer (some ⟨w.heap.size,0,none⟩),.pointer (some ⟨w.heap.size+1,0,none⟩)]] 224)
theorem repVars_w (w:World) (L:Nat) (nm verb:ByteArray) (a1 a2 a3:Int) (l3:w.cell? ⟨L,3,none⟩=some (.int .i64 a1)) (l4:w.cell? ⟨L,4,none⟩=some (.int .i64 a2)) (l5:w.cell? ⟨L,5,none⟩=some (.int .i64 a3)) :
   RepW (repVars w L nm verb) w.heap.size L nm verb a1 a2 a3∧Below w.heap.size w (repVars w L nm verb):=by
 have hb:Below w.heap.size w (repVars w L nm verb):=((((Below.refl _ w).alloc (Nat.le_refl _) _).alloc (by simp) _).alloc (by simp;omega) _).alloc (by simp;omega) _
 refine ⟨⟨?_,?_,?_,?_,(hb.cell (World.block_lt_of_cell? w _ l3)).trans l3,(hb.cell (World.block_lt_of_cell? w _ l4)).trans l4,(hb.cell (World.block_lt_of_cell? w _ l5)).trans l5⟩,hb⟩
 · exact ((((Blk.new w _ _).alloc _).alloc _).alloc _).cell 0 rfl
 · exact (((Blk.new' _ _ _ _ (by simp)).alloc _).alloc _).cell 0 rfl
 · exact ((Blk.new' _ _ _ _ (by simp)).alloc _).cell 0 rfl
 · exact (Blk.new' _ _ _ _ (by simp)).cell 0 rfl
structure RpI (w W:World) (R:Nat) (cur:Array Value) (L:Nat) (nm verb:ByteArray) (a1 a2 a3:Int):Prop where
 rep:RepW W w.heap.size L nm verb a1 a2 a3
 row:Blk W R 9 cur
 pr:PrTab W
 big:0 < W.heap.size
 below:Below w.heap.size w W
theorem RpI.step {w W W':World} {R:Nat} {cur:Array Value} {L:Nat} {nm verb:ByteArray} {a1 a2 a3:Int} (h:RpI w W R cur L nm verb a1 a2 a3) (k:Below W.heap.size W W'):RpI w W' R cur L nm verb a1 a2 a3 :=
 ⟨h.rep.below k,h.row.kept (Kp.of_below (X:=fun _=>False) k) (fun h=>h),h.pr.keptT (N:=W.heap.size) (S:=fun _=>True) ⟨k,fun k cs t fz e hn=>absurd True.intro hn⟩ h.big,Nat.lt_of_lt_of_le h.big k.size,h.below.trans (k.mono h.below.size)⟩
def RepR (w:World) (e:Ending) (w':World):Prop:=∃ g,((e=.returned (.tuple #[.pointer (some ⟨g,0,none⟩),.pointer none]))∨(e=.returned (.tuple #[.pointer none,.pointer (some ⟨g,0,none⟩)])∧∃ cs,Blk w' g 146 cs∧ErB cs))∧Below w.heap.size w w'
set_option maxHeartbeats 8000000 in
theorem replace_1 (R o cap L:Nat) (cur:Array Value) (nm verb path n:ByteArray) (k:Nat) (a1 a2 a3:Int) (w:World) (hR:Blk w R 9 cur) (h0:cur[o]?=some (.string path)) (ha:cur[o+1]?=some (.string ⟨#[61,62]⟩)) (h2:cur[o+2]?=some (.string n))
   (hp:Plain path) (hn:Plain n) (hk:path.size=k+1) (hc:97≤bt path k∧bt path k≤122) (hf:Lib.hasPrefix path.data.toList gopkg.data.toList=false)
   (l3:w.cell? ⟨L,3,none⟩=some (.int .i64 a1)) (l4:w.cell? ⟨L,4,none⟩=some (.int .i64 a2)) (l5:w.cell? ⟨L,5,none⟩=some (.int .i64 a3)) (hpr:PrTab w) (hP:0 < w.heap.size) :
   Calls Tryz.prog 78 #[.string nm,.pointer (some ⟨L,0,none⟩),.string verb,.slice (some ⟨R,o,none⟩) 3 (cap+3),.nilFunc] w (RepR w):=by
 have hmf:∀ (fn:Fn) (first cap:Array Value) (w:World),(Instr.makeFunc fn first cap).run Tryz.prog w=.ok (.func fn first cap) w:=fun _ _ _ _=>rfl
 unfold RepR
 obtain ⟨hw,hbw⟩:=repVars_w w L nm verb a1 a2 a3 l3 l4 l5
 have hI:RpI w (repVars w L nm verb) R cur L nm verb a1 a2 a3:=⟨hw,hR.kept (Kp.of_below (X:=fun _=>False) hbw) (fun h=>h),hpr.keptT (N:=w.heap.size) (S:=fun _=>True) ⟨hbw,fun k cs t fz e hn=>absurd True.intro hn⟩ hP,Nat.lt_of_lt_of_le hP hbw.size,hbw⟩
 clear hR hpr l3 l4 l5 hw hbw
 go_enter Tryz.func78,Tryz.ntmps78
 go_upto_region 5 with fail
 change Code.wp _ _ _ _ (repVars w L nm verb)
 generalize repVars w L nm verb=W at *
 have ca:W.cell? ⟨R,o+1,none⟩=some (.string ⟨#[61,62]⟩):=hI.row.cell _ ha
 have HC:=hide (parseString_plain R o cur path W hI.row h0 hp.chars hp.first hp.len hp.mq hI.pr hI.big)
 have HC2:=hide (fun w1 (hI1:RpI w w1 R cur L nm verb a1 a2 a3)=>parseString_plain R (o+2) cur n w1 hI1.row h2 hn.chars hn.first hn.len hn.mq hI1.pr hI1.big)
 have HI:=hide hI
 have HM:=hide (fun w1=>pathMajor_plain path k w1 hk (by have:=hp.len;omega) hc hf)
 have hnl:=hn.len
 clear h0 ha h2 hI hp hn hc hf hk
 go_wp2_with fail
 refine HC.out.mono ?_
 rintro e w1 ⟨rfl,hb1⟩
 have HI1:=hide (HI.out.step hb1)
 clear hb1 HC HI
 go_wp2_with fail
 refine (HM.out w1).mono ?_
 rintro e w1' ⟨rfl,rfl⟩
 go_wp2_with fail
 go_fit (HC2.out _ HI1.out)
 rintro e w4 ⟨rfl,hb4⟩
 have HI5:=hide (HI1.out.step hb4)
 clear hb4 HC2 HI1
 go_wp2_with fail
 refine (isDir_any n w4).mono ?_
 rintro e w4' ⟨⟨b,rfl⟩,rfl⟩
 cases b
 · go_wp2_with fail
   refine (zzContains_any n _ w4 hnl (by decide)).mono ?_
   rintro e w4' ⟨rfl,rfl⟩
   generalize standsB n _=b
   cases b
   all_goals go_wp2_with fail
   all_goals go_fit (rep3_any _ w.heap.size L nm verb _ a1 a2 a3 _ HI5.out.rep)
   all_goals (rintro e w5 ⟨g,cs,rfl,hg,hsz,hb5⟩;have HG:=hide (And.intro hg (And.intro hsz (HI5.out.step hb5).below));clear hg hsz hb5)
   all_goals go_wp2_with fail
   all_goals go_returns
   all_goals exact ⟨g,Or.inr ⟨rfl,cs,HG.out.1,HG.out.2.1⟩,HG.out.2.2⟩
 · go_wp2_with fail
   refine (zzContains_any n _ w4 hnl (by decide)).mono ?_
   rintro e w4' ⟨rfl,rfl⟩
   generalize standsB n _=b
   cases b
   · have q1:=HI5.out.rep.c1
     go_wp2_with fail
     go_returns
     exact ⟨_,Or.inl rfl,HI5.out.below.alloc HI5.out.below.size _⟩
   · go_wp2_with fail
     go_fit (rep3_any _ w.heap.size L nm verb _ a1 a2 a3 _ HI5.out.rep)
     rintro e w5 ⟨g,cs,rfl,hg,hsz,hb5⟩
     have HG:=hide (And.intro hg (And.intro hsz (HI5.out.step hb5).below))
     clear hg hsz hb5
     go_wp2_with fail
     go_returns
     exact ⟨g,Or.inr ⟨rfl,cs,HG.out.1,HG.out.2.1⟩,HG.out.2.2⟩
set_option maxHeartbeats 8000000 in
theorem replace_2 (R o cap L:Nat) (cur:Array Value) (nm verb path n:ByteArray) (m:List UInt8) (k:Nat) (a1 a2 a3:Int) (w:World) (hR:Blk w R 9 cur) (h0:cur[o]?=some (.string path)) (ha:cur[o+1]?=some (.string ⟨#[61,62]⟩)) (h2:cur[o+2]?=some (.string n))
   (h3:cur[o+3]?=some (.string (mkS m))) (hm:VerL m) (hmp:Plain (mkS m))
   (hp:Plain path) (hn:Plain n) (hk:path.size=k+1) (hc:97≤bt path k∧bt path k≤122) (hf:Lib.hasPrefix path.data.toList gopkg.data.toList=false)
   (l3:w.cell? ⟨L,3,none⟩=some (.int .i64 a1)) (l4:w.cell? ⟨L,4,none⟩=some (.int .i64 a2)) (l5:w.cell? ⟨L,5,none⟩=some (.int .i64 a3)) (hpr:PrTab w) (hP:0 < w.heap.size) :
   Calls Tryz.prog 78 #[.string nm,.pointer (some ⟨L,0,none⟩),.string verb,.slice (some ⟨R,o,none⟩) 4 (cap+4),.nilFunc] w (RepR w):=by
 have hmf:∀ (fn:Fn) (first cap:Array Value) (w:World),(Instr.makeFunc fn first cap).run Tryz.prog w=.ok (.func fn first cap) w:=fun _ _ _ _=>rfl
 unfold RepR
 obtain ⟨hw,hbw⟩:=repVars_w w L nm verb a1 a2 a3 l3 l4 l5
 have hI:RpI w (repVars w L nm verb) R cur L nm verb a1 a2 a3:=⟨hw,hR.kept (Kp.of_below (X:=fun _=>False) hbw) (fun h=>h),hpr.keptT (N:=w.heap.size) (S:=fun _=>True) ⟨hbw,fun k cs t fz e hn=>absurd True.intro hn⟩ hP,Nat.lt_of_lt_of_le hP hbw.size,hbw⟩
 clear hR hpr l3 l4 l5 hw hbw
 obtain ⟨d',hd',⟨r',hr'⟩,hsp'⟩:=sp_ver hm
 have h0m:0 < (mkS m).size:=by rw [mkS_len,hr'];simp
 go_enter Tryz.func78,Tryz.ntmps78
 go_upto_region 5 with fail
 change Code.wp _ _ _ _ (repVars w L nm verb)
 generalize repVars w L nm verb=W at *
 have ca:W.cell? ⟨R,o+1,none⟩=some (.string ⟨#[61,62]⟩):=hI.row.cell _ ha
 have HC:=hide (parseString_plain R o cur path W hI.row h0 hp.chars hp.first hp.len hp.mq hI.pr hI.big)
 have HC2:=hide (fun w1 (hI1:RpI w w1 R cur L nm verb a1 a2 a3)=>parseString_plain R (o+2) cur n w1 hI1.row h2 hn.chars hn.first hn.len hn.mq hI1.pr hI1.big)
 have HV2:=hide (fun w1 (hI1:RpI w w1 R cur L nm verb a1 a2 a3)=>parseVersion_sp R (o+3) cur verb n (mkS m) _ w1 hI1.row h3 hmp hsp' h0m hI1.pr hI1.big)
 have HI:=hide hI
 have HM:=hide (fun w1=>pathMajor_plain path k w1 hk (by have:=hp.len;omega) hc hf)
 have hnl:=hn.len
 clear h0 ha h2 hI hp hn hc hf hk
 clear h3 hm hmp hsp' h0m hr' hd'
 go_wp2_with fail
 refine HC.out.mono ?_
 rintro e w1 ⟨rfl,hb1⟩
 have HI1:=hide (HI.out.step hb1)
 clear hb1 HC HI
 go_wp2_with fail
 refine (HM.out w1).mono ?_
 rintro e w1' ⟨rfl,rfl⟩
 go_wp2_with fail
 go_fit (HC2.out _ HI1.out)
 rintro e w4 ⟨rfl,hb4⟩
 have HI5:=hide (HI1.out.step hb4)
 clear hb4 HC2 HI1
 have q2:=HI5.out.rep.c2
 go_upto_region 35 with fail
 go_cut [22,17] from 146 to 156 (fun x y wx=>RpI w wx R cur L nm verb a1 a2 a3∧x=.string (mkS m)∧y=.nilIface)
 case first =>
   change Code.wp _ (Code.region _ #[_,_,_,_,_,id _,_,_,_,_,_,_,_] _) _ _ _
   go_region_held3 (fun w'=>w'.cell? ⟨w.heap.size+1+1,0,none⟩=some (.string verb)) (go_keep)
     ((go_fit (HV2.out w4.drew (HI5.out.step (Below.refl _ _).drew));rintro e w6 ⟨rfl,hb6⟩;have hI6:=(HI5.out.step (Below.refl _ _).drew).step hb6;have g6:=hI6.rep.c2;have HI6:=hide hI6;clear hI6 hb6))
   all_goals go_wp2_with fail
   all_goals go_meet
   all_goals exact ⟨HI6.out,rfl,rfl⟩
 case rest =>
 obtain ⟨hI7,rfl,rfl⟩:=hcut
 have HI7:=hide hI7
 have q1:=hI7.rep.c1
 clear hI7 HI5 HV2 q2
 go_wp2_with fail
 refine (isDir_any n _).mono ?_
 rintro e w8 ⟨⟨b,rfl⟩,rfl⟩
 cases b
 · go_wp2_with fail
   go_returns
   exact ⟨_,Or.inl rfl,HI7.out.below.alloc HI7.out.below.size _⟩
 · go_wp2_with fail
   go_fit (rep3_any _ w.heap.size L nm verb _ a1 a2 a3 _ (HI7.out.step (by repeat (with_reducible first | exact Below.refl _ _ | refine Below.drew ?_ | refine Below.alloc ?_ (by simp) _))).rep)
   rintro e w9 ⟨g,cs,rfl,hg,hsz,hb9⟩
   have HG:=hide (And.intro hg (And.intro hsz ((HI7.out.step (by repeat (with_reducible first | exact Below.refl _ _ | refine Below.drew ?_ | refine Below.alloc ?_ (by simp) _))).step hb9).below))
   clear hg hsz hb9
   go_wp2_with fail
   go_returns
   exact ⟨g,Or.inr ⟨rfl,cs,HG.out.1,HG.out.2.1⟩,HG.out.2.2⟩
set_option maxHeartbeats 8000000 in
theorem replace_3 (R o cap L:Nat) (cur:Array Value) (nm verb path n:ByteArray) (v:List UInt8) (k:Nat) (a1 a2 a3:Int) (w:World) (hR:Blk w R 9 cur) (h0:cur[o]?=some (.string path)) (ha:cur[o+2]?=some (.string ⟨#[61,62]⟩)) (h2:cur[o+3]?=some (.string n))
   (h1:cur[o+1]?=some (.string (mkS v))) (hv:VerL v) (hvp:Plain (mkS v))
   (hp:Plain path) (hn:Plain n) (hk:path.size=k+1) (hc:97≤bt path k∧bt path k≤122) (hf:Lib.hasPrefix path.data.toList gopkg.data.toList=false)
   (l3:w.cell? ⟨L,3,none⟩=some (.int .i64 a1)) (l4:w.cell? ⟨L,4,none⟩=some (.int .i64 a2)) (l5:w.cell? ⟨L,5,none⟩=some (.int .i64 a3)) (hpr:PrTab w) (hP:0 < w.heap.size) :
   Calls Tryz.prog 78 #[.string nm,.pointer (some ⟨L,0,none⟩),.string verb,.slice (some ⟨R,o,none⟩) 4 (cap+4),.nilFunc] w (RepR w):=by
 have hmf:∀ (fn:Fn) (first cap:Array Value) (w:World),(Instr.makeFunc fn first cap).run Tryz.prog w=.ok (.func fn first cap) w:=fun _ _ _ _=>rfl
 unfold RepR
 obtain ⟨hw,hbw⟩:=repVars_w w L nm verb a1 a2 a3 l3 l4 l5
 have hI:RpI w (repVars w L nm verb) R cur L nm verb a1 a2 a3:=⟨hw,hR.kept (Kp.of_below (X:=fun _=>False) hbw) (fun h=>h),hpr.keptT (N:=w.heap.size) (S:=fun _=>True) ⟨hbw,fun k cs t fz e hn=>absurd True.intro hn⟩ hP,Nat.lt_of_lt_of_le hP hbw.size,hbw⟩
 clear hR hpr l3 l4 l5 hw hbw
 have hne:((mkS v).toList == [61,62])=false:=by
   rw [mkS_beq]
   obtain ⟨_,_,_,_,rfl,_⟩:=hv
   rfl
 obtain ⟨d,hd,⟨r,hr⟩,hsp⟩:=sp_ver hv
 have h0v:0 < (mkS v).size:=by rw [mkS_len,hr];simp
 go_enter Tryz.func78,Tryz.ntmps78
 go_upto_region 5 with fail
 change Code.wp _ _ _ _ (repVars w L nm verb)
 generalize repVars w L nm verb=W at *
 have ca:W.cell? ⟨R,o+2,none⟩=some (.string ⟨#[61,62]⟩):=hI.row.cell _ ha
 have c1:W.cell? ⟨R,o+1,none⟩=some (.string (mkS v)):=hI.row.cell _ h1
 have HC:=hide (parseString_plain R o cur path W hI.row h0 hp.chars hp.first hp.len hp.mq hI.pr hI.big)
 have HC2:=hide (fun w1 (hI1:RpI w w1 R cur L nm verb a1 a2 a3)=>parseString_plain R (o+3) cur n w1 hI1.row h2 hn.chars hn.first hn.len hn.mq hI1.pr hI1.big)
 have HV:=hide (fun w1 (hI1:RpI w w1 R cur L nm verb a1 a2 a3)=>parseVersion_sp R (o+1) cur verb path (mkS v) _ w1 hI1.row h1 hvp hsp h0v hI1.pr hI1.big)
 have HK:=hide (fun w1=>checkPathMajor_sp v w1 hv)
 have HI:=hide hI
 have HM:=hide (fun w1=>pathMajor_plain path k w1 hk (by have:=hp.len;omega) hc hf)
 have hnl:=hn.len
 clear h0 ha h2 hI hp hn hc hf hk
 clear h1 hv hvp hsp h0v hr hd
 go_wp2_with fail
 refine HC.out.mono ?_
 rintro e w1 ⟨rfl,hb1⟩
 have HI1:=hide (HI.out.step hb1)
 clear hb1 HC HI
 go_wp2_with fail
 refine (HM.out w1).mono ?_
 rintro e w1' ⟨rfl,rfl⟩
 have q2:=HI1.out.rep.c2
 go_upto_region 17 with fail
 go_cut [19,17] from 86 to 94 (fun x y wx=>RpI w wx R cur L nm verb a1 a2 a3∧x=.string (mkS v)∧y=.nilIface)
 case first =>
   go_region_held3 (fun w'=>w'.cell? ⟨w.heap.size+1+1,0,none⟩=some (.string verb)) (go_keep)
     ((go_fit (HV.out w1'.drew (HI1.out.step (Below.refl _ _).drew));rintro e w2 ⟨rfl,hb2⟩;have hI2:=(HI1.out.step (Below.refl _ _).drew).step hb2;have g2:=hI2.rep.c2;have HI2:=hide hI2;clear hI2 hb2))
   all_goals go_wp2_with fail
   all_goals go_meet
   all_goals exact ⟨HI2.out,rfl,rfl⟩
 case rest =>
 obtain ⟨hI3,rfl,rfl⟩:=hcut
 have HI3:=hide hI3
 clear hI3 HI1 HV q2
 go_wp2_with fail
 go_fit (HK.out _)
 rintro e w3 ⟨rfl,hb3⟩
 have HI4:=hide (HI3.out.step hb3)
 clear hb3 HI3 HK
 go_wp2_with fail
 go_fit (HC2.out _ HI4.out)
 rintro e w4 ⟨rfl,hb4⟩
 have HI5:=hide (HI4.out.step hb4)
 clear hb4 HC2 HI4
 go_wp2_with fail
 refine (isDir_any n w4).mono ?_
 rintro e w4' ⟨⟨b,rfl⟩,rfl⟩
 cases b
 · go_wp2_with fail
   refine (zzContains_any n _ w4 hnl (by decide)).mono ?_
   rintro e w4' ⟨rfl,rfl⟩
   generalize standsB n _=b
   cases b
   all_goals go_wp2_with fail
   all_goals go_fit (rep3_any _ w.heap.size L nm verb _ a1 a2 a3 _ HI5.out.rep)
   all_goals (rintro e w5 ⟨g,cs,rfl,hg,hsz,hb5⟩;have HG:=hide (And.intro hg (And.intro hsz (HI5.out.step hb5).below));clear hg hsz hb5)
   all_goals go_wp2_with fail
   all_goals go_returns
   all_goals exact ⟨g,Or.inr ⟨rfl,cs,HG.out.1,HG.out.2.1⟩,HG.out.2.2⟩
 · go_wp2_with fail
   refine (zzContains_any n _ w4 hnl (by decide)).mono ?_
   rintro e w4' ⟨rfl,rfl⟩
   generalize standsB n _=b
   cases b
   · have q1:=HI5.out.rep.c1
     go_wp2_with fail
     go_returns
     exact ⟨_,Or.inl rfl,HI5.out.below.alloc HI5.out.below.size _⟩
   · go_wp2_with fail
     go_fit (rep3_any _ w.heap.size L nm verb _ a1 a2 a3 _ HI5.out.rep)
     rintro e w5 ⟨g,cs,rfl,hg,hsz,hb5⟩
     have HG:=hide (And.intro hg (And.intro hsz (HI5.out.step hb5).below))
     clear hg hsz hb5
     go_wp2_with fail
     go_returns
     exact ⟨g,Or.inr ⟨rfl,cs,HG.out.1,HG.out.2.1⟩,HG.out.2.2⟩
set_option maxHeartbeats 8000000 in
theorem replace_4 (R o cap L:Nat) (cur:Array Value) (nm verb path n:ByteArray) (v:List UInt8) (m:List UInt8) (k:Nat) (a1 a2 a3:Int) (w:World) (hR:Blk w R 9 cur) (h0:cur[o]?=some (.string path)) (ha:cur[o+2]?=some (.string ⟨#[61,62]⟩)) (h2:cur[o+3]?=some (.string n))
   (h1:cur[o+1]?=some (.string (mkS v))) (hv:VerL v) (hvp:Plain (mkS v))
   (h3:cur[o+4]?=some (.string (mkS m))) (hm:VerL m) (hmp:Plain (mkS m))
   (hp:Plain path) (hn:Plain n) (hk:path.size=k+1) (hc:97≤bt path k∧bt path k≤122) (hf:Lib.hasPrefix path.data.toList gopkg.data.toList=false)
   (l3:w.cell? ⟨L,3,none⟩=some (.int .i64 a1)) (l4:w.cell? ⟨L,4,none⟩=some (.int .i64 a2)) (l5:w.cell? ⟨L,5,none⟩=some (.int .i64 a3)) (hpr:PrTab w) (hP:0 < w.heap.size) :
   Calls Tryz.prog 78 #[.string nm,.pointer (some ⟨L,0,none⟩),.string verb,.slice (some ⟨R,o,none⟩) 5 (cap+5),.nilFunc] w (RepR w):=by
 have hmf:∀ (fn:Fn) (first cap:Array Value) (w:World),(Instr.makeFunc fn first cap).run Tryz.prog w=.ok (.func fn first cap) w:=fun _ _ _ _=>rfl
 unfold RepR
 obtain ⟨hw,hbw⟩:=repVars_w w L nm verb a1 a2 a3 l3 l4 l5
 have hI:RpI w (repVars w L nm verb) R cur L nm verb a1 a2 a3:=⟨hw,hR.kept (Kp.of_below (X:=fun _=>False) hbw) (fun h=>h),hpr.keptT (N:=w.heap.size) (S:=fun _=>True) ⟨hbw,fun k cs t fz e hn=>absurd True.intro hn⟩ hP,Nat.lt_of_lt_of_le hP hbw.size,hbw⟩
 clear hR hpr l3 l4 l5 hw hbw
 have hne:((mkS v).toList == [61,62])=false:=by
   rw [mkS_beq]
   obtain ⟨_,_,_,_,rfl,_⟩:=hv
   rfl
 obtain ⟨d,hd,⟨r,hr⟩,hsp⟩:=sp_ver hv
 have h0v:0 < (mkS v).size:=by rw [mkS_len,hr];simp
 obtain ⟨d',hd',⟨r',hr'⟩,hsp'⟩:=sp_ver hm
 have h0m:0 < (mkS m).size:=by rw [mkS_len,hr'];simp
 go_enter Tryz.func78,Tryz.ntmps78
 go_upto_region 5 with fail
 change Code.wp _ _ _ _ (repVars w L nm verb)
 generalize repVars w L nm verb=W at *
 have ca:W.cell? ⟨R,o+2,none⟩=some (.string ⟨#[61,62]⟩):=hI.row.cell _ ha
 have c1:W.cell? ⟨R,o+1,none⟩=some (.string (mkS v)):=hI.row.cell _ h1
 have HC:=hide (parseString_plain R o cur path W hI.row h0 hp.chars hp.first hp.len hp.mq hI.pr hI.big)
 have HC2:=hide (fun w1 (hI1:RpI w w1 R cur L nm verb a1 a2 a3)=>parseString_plain R (o+3) cur n w1 hI1.row h2 hn.chars hn.first hn.len hn.mq hI1.pr hI1.big)
 have HV:=hide (fun w1 (hI1:RpI w w1 R cur L nm verb a1 a2 a3)=>parseVersion_sp R (o+1) cur verb path (mkS v) _ w1 hI1.row h1 hvp hsp h0v hI1.pr hI1.big)
 have HK:=hide (fun w1=>checkPathMajor_sp v w1 hv)
 have HV2:=hide (fun w1 (hI1:RpI w w1 R cur L nm verb a1 a2 a3)=>parseVersion_sp R (o+4) cur verb n (mkS m) _ w1 hI1.row h3 hmp hsp' h0m hI1.pr hI1.big)
 have HI:=hide hI
 have HM:=hide (fun w1=>pathMajor_plain path k w1 hk (by have:=hp.len;omega) hc hf)
 have hnl:=hn.len
 clear h0 ha h2 hI hp hn hc hf hk
 clear h1 hv hvp hsp h0v hr hd
 clear h3 hm hmp hsp' h0m hr' hd'
 go_wp2_with fail
 refine HC.out.mono ?_
 rintro e w1 ⟨rfl,hb1⟩
 have HI1:=hide (HI.out.step hb1)
 clear hb1 HC HI
 go_wp2_with fail
 refine (HM.out w1).mono ?_
 rintro e w1' ⟨rfl,rfl⟩
 have q2:=HI1.out.rep.c2
 go_upto_region 17 with fail
 go_cut [19,17] from 86 to 94 (fun x y wx=>RpI w wx R cur L nm verb a1 a2 a3∧x=.string (mkS v)∧y=.nilIface)
 case first =>
   go_region_held3 (fun w'=>w'.cell? ⟨w.heap.size+1+1,0,none⟩=some (.string verb)) (go_keep)
     ((go_fit (HV.out w1'.drew (HI1.out.step (Below.refl _ _).drew));rintro e w2 ⟨rfl,hb2⟩;have hI2:=(HI1.out.step (Below.refl _ _).drew).step hb2;have g2:=hI2.rep.c2;have HI2:=hide hI2;clear hI2 hb2))
   all_goals go_wp2_with fail
   all_goals go_meet
   all_goals exact ⟨HI2.out,rfl,rfl⟩
 case rest =>
 obtain ⟨hI3,rfl,rfl⟩:=hcut
 have HI3:=hide hI3
 clear hI3 HI1 HV q2
 go_wp2_with fail
 go_fit (HK.out _)
 rintro e w3 ⟨rfl,hb3⟩
 have HI4:=hide (HI3.out.step hb3)
 clear hb3 HI3 HK
 go_wp2_with fail
 go_fit (HC2.out _ HI4.out)
 rintro e w4 ⟨rfl,hb4⟩
 have HI5:=hide (HI4.out.step hb4)
 clear hb4 HC2 HI4
 have q2:=HI5.out.rep.c2
 go_upto_region 35 with fail
 go_cut [22,17] from 146 to 156 (fun x y wx=>RpI w wx R cur L nm verb a1 a2 a3∧x=.string (mkS m)∧y=.nilIface)
 case first =>
   change Code.wp _ (Code.region _ #[_,_,_,_,_,id _,_,_,_,_,_,_,_] _) _ _ _
   go_region_held3 (fun w'=>w'.cell? ⟨w.heap.size+1+1,0,none⟩=some (.string verb)) (go_keep)
     ((go_fit (HV2.out w4.drew (HI5.out.step (Below.refl _ _).drew));rintro e w6 ⟨rfl,hb6⟩;have hI6:=(HI5.out.step (Below.refl _ _).drew).step hb6;have g6:=hI6.rep.c2;have HI6:=hide hI6;clear hI6 hb6))
   all_goals go_wp2_with fail
   all_goals go_meet
   all_goals exact ⟨HI6.out,rfl,rfl⟩
 case rest =>
 obtain ⟨hI7,rfl,rfl⟩:=hcut
 have HI7:=hide hI7
 have q1:=hI7.rep.c1
 clear hI7 HI5 HV2 q2
 go_wp2_with fail
 refine (isDir_any n _).mono ?_
 rintro e w8 ⟨⟨b,rfl⟩,rfl⟩
 cases b
 · go_wp2_with fail
   go_returns
   exact ⟨_,Or.inl rfl,HI7.out.below.alloc HI7.out.below.size _⟩
 · go_wp2_with fail
   go_fit (rep3_any _ w.heap.size L nm verb _ a1 a2 a3 _ (HI7.out.step (by repeat (with_reducible first | exact Below.refl _ _ | refine Below.drew ?_ | refine Below.alloc ?_ (by simp) _))).rep)
   rintro e w9 ⟨g,cs,rfl,hg,hsz,hb9⟩
   have HG:=hide (And.intro hg (And.intro hsz ((HI7.out.step (by repeat (with_reducible first | exact Below.refl _ _ | refine Below.drew ?_ | refine Below.alloc ?_ (by simp) _))).step hb9).below))
   clear hg hsz hb9
   go_wp2_with fail
   go_returns
   exact ⟨g,Or.inr ⟨rfl,cs,HG.out.1,HG.out.2.1⟩,HG.out.2.2⟩
end
end Go.Proofs.YtifkpibjeamfkaaGreatFmt
