/-
  (*input).order over any tree.
  (*input).order at a block and at a file.
-/
import Derived.Test.YtifkpibjeamfkaaGreatFmtZ23
set_option linter.unusedVariables false
set_option linter.unusedSimpArgs false
set_option maxRecDepth 100000
namespace Go.Proofs.YtifkpibjeamfkaaGreatFmt
section
open Go.RowKit Go.Proofs
@[go_sem] theorem as_cb_cb (v:Value) (w:World):(Instr.typeAssert (.iface 197 v) 131 197 true).run Tryz.prog w=.ok (.tuple #[v,.bool true]) w:=run_assert_same (e:=201) (by kernel_rfl) _ _
@[go_sem] theorem as_cb_ln (v:Value) (w:World):(Instr.typeAssert (.iface 197 v) 131 92 true).run Tryz.prog w=.ok (.tuple #[.pointer none,.bool false]) w:=run_assert_other (e:=136) (by kernel_rfl) (by kernel_rfl) (by decide) _ _
@[go_sem] theorem as_cb_lp (v:Value) (w:World):(Instr.typeAssert (.iface 197 v) 131 239 true).run Tryz.prog w=.ok (.tuple #[.pointer none,.bool false]) w:=run_assert_other (e:=139) (by kernel_rfl) (by kernel_rfl) (by decide) _ _
@[go_sem] theorem as_cb_rp (v:Value) (w:World):(Instr.typeAssert (.iface 197 v) 131 240 true).run Tryz.prog w=.ok (.tuple #[.pointer none,.bool false]) w:=run_assert_other (e:=141) (by kernel_rfl) (by kernel_rfl) (by decide) _ _
@[go_sem] theorem as_cb_lb (v:Value) (w:World):(Instr.typeAssert (.iface 197 v) 131 137 true).run Tryz.prog w=.ok (.tuple #[.pointer none,.bool false]) w:=run_assert_other (e:=143) (by kernel_rfl) (by kernel_rfl) (by decide) _ _
@[go_sem] theorem as_cb_file (v:Value) (w:World):(Instr.typeAssert (.iface 197 v) 131 87 true).run Tryz.prog w=.ok (.tuple #[.pointer none,.bool false]) w:=run_assert_other (e:=129) (by kernel_rfl) (by kernel_rfl) (by decide) _ _
@[go_sem] theorem as_lp_cb (v:Value) (w:World):(Instr.typeAssert (.iface 239 v) 131 197 true).run Tryz.prog w=.ok (.tuple #[.pointer none,.bool false]) w:=run_assert_other (e:=201) (by kernel_rfl) (by kernel_rfl) (by decide) _ _
@[go_sem] theorem as_lp_ln (v:Value) (w:World):(Instr.typeAssert (.iface 239 v) 131 92 true).run Tryz.prog w=.ok (.tuple #[.pointer none,.bool false]) w:=run_assert_other (e:=136) (by kernel_rfl) (by kernel_rfl) (by decide) _ _
@[go_sem] theorem as_lp_lp (v:Value) (w:World):(Instr.typeAssert (.iface 239 v) 131 239 true).run Tryz.prog w=.ok (.tuple #[v,.bool true]) w:=run_assert_same (e:=139) (by kernel_rfl) _ _
@[go_sem] theorem as_lp_rp (v:Value) (w:World):(Instr.typeAssert (.iface 239 v) 131 240 true).run Tryz.prog w=.ok (.tuple #[.pointer none,.bool false]) w:=run_assert_other (e:=141) (by kernel_rfl) (by kernel_rfl) (by decide) _ _
@[go_sem] theorem as_lp_lb (v:Value) (w:World):(Instr.typeAssert (.iface 239 v) 131 137 true).run Tryz.prog w=.ok (.tuple #[.pointer none,.bool false]) w:=run_assert_other (e:=143) (by kernel_rfl) (by kernel_rfl) (by decide) _ _
@[go_sem] theorem as_lp_file (v:Value) (w:World):(Instr.typeAssert (.iface 239 v) 131 87 true).run Tryz.prog w=.ok (.tuple #[.pointer none,.bool false]) w:=run_assert_other (e:=129) (by kernel_rfl) (by kernel_rfl) (by decide) _ _
@[go_sem] theorem as_rp_cb (v:Value) (w:World):(Instr.typeAssert (.iface 240 v) 131 197 true).run Tryz.prog w=.ok (.tuple #[.pointer none,.bool false]) w:=run_assert_other (e:=201) (by kernel_rfl) (by kernel_rfl) (by decide) _ _
@[go_sem] theorem as_rp_ln (v:Value) (w:World):(Instr.typeAssert (.iface 240 v) 131 92 true).run Tryz.prog w=.ok (.tuple #[.pointer none,.bool false]) w:=run_assert_other (e:=136) (by kernel_rfl) (by kernel_rfl) (by decide) _ _
@[go_sem] theorem as_rp_lp (v:Value) (w:World):(Instr.typeAssert (.iface 240 v) 131 239 true).run Tryz.prog w=.ok (.tuple #[.pointer none,.bool false]) w:=run_assert_other (e:=139) (by kernel_rfl) (by kernel_rfl) (by decide) _ _
@[go_sem] theorem as_rp_rp (v:Value) (w:World):(Instr.typeAssert (.iface 240 v) 131 240 true).run Tryz.prog w=.ok (.tuple #[v,.bool true]) w:=run_assert_same (e:=141) (by kernel_rfl) _ _
@[go_sem] theorem as_rp_lb (v:Value) (w:World):(Instr.typeAssert (.iface 240 v) 131 137 true).run Tryz.prog w=.ok (.tuple #[.pointer none,.bool false]) w:=run_assert_other (e:=143) (by kernel_rfl) (by kernel_rfl) (by decide) _ _
@[go_sem] theorem as_rp_file (v:Value) (w:World):(Instr.typeAssert (.iface 240 v) 131 87 true).run Tryz.prog w=.ok (.tuple #[.pointer none,.bool false]) w:=run_assert_other (e:=129) (by kernel_rfl) (by kernel_rfl) (by decide) _ _
@[go_sem] theorem as_lb_cb (v:Value) (w:World):(Instr.typeAssert (.iface 137 v) 131 197 true).run Tryz.prog w=.ok (.tuple #[.pointer none,.bool false]) w:=run_assert_other (e:=201) (by kernel_rfl) (by kernel_rfl) (by decide) _ _
@[go_sem] theorem as_lb_ln (v:Value) (w:World):(Instr.typeAssert (.iface 137 v) 131 92 true).run Tryz.prog w=.ok (.tuple #[.pointer none,.bool false]) w:=run_assert_other (e:=136) (by kernel_rfl) (by kernel_rfl) (by decide) _ _
@[go_sem] theorem as_lb_lp (v:Value) (w:World):(Instr.typeAssert (.iface 137 v) 131 239 true).run Tryz.prog w=.ok (.tuple #[.pointer none,.bool false]) w:=run_assert_other (e:=139) (by kernel_rfl) (by kernel_rfl) (by decide) _ _
@[go_sem] theorem as_lb_rp (v:Value) (w:World):(Instr.typeAssert (.iface 137 v) 131 240 true).run Tryz.prog w=.ok (.tuple #[.pointer none,.bool false]) w:=run_assert_other (e:=141) (by kernel_rfl) (by kernel_rfl) (by decide) _ _
@[go_sem] theorem as_lb_lb (v:Value) (w:World):(Instr.typeAssert (.iface 137 v) 131 137 true).run Tryz.prog w=.ok (.tuple #[v,.bool true]) w:=run_assert_same (e:=143) (by kernel_rfl) _ _
@[go_sem] theorem as_lb_file (v:Value) (w:World):(Instr.typeAssert (.iface 137 v) 131 87 true).run Tryz.prog w=.ok (.tuple #[.pointer none,.bool false]) w:=run_assert_other (e:=129) (by kernel_rfl) (by kernel_rfl) (by decide) _ _
inductive Ex
 | file (F:Nat)
 | cb (C:Nat)
 | ln (L:Nat)
 | bk (X:Nat)
 | lp (X:Nat)
 | rp (X:Nat)
 deriving DecidableEq
def lpV (X:Nat):Value:=.iface 239 (.pointer (some ⟨X,6,none⟩))
def rpV (X:Nat):Value:=.iface 240 (.pointer (some ⟨X,14,none⟩))
def Ex.val:Ex→Value
 | .file F=>fileV F
 | .cb C=>cbV C
 | .ln L=>lineV L
 | .bk X=>lbV X
 | .lp X=>lpV X
 | .rp X=>rpV X
def Nd.pre:Nd→List Ex
 | .cb C=>[.cb C]
 | .ln L=>[.ln L]
 | .bk X Ls=>.bk X :: .lp X :: (Ls.map Ex.ln++[.rp X])
def Nd.post:Nd→List Ex
 | .cb C=>[.cb C]
 | .ln L=>[.ln L]
 | .bk X Ls=>.lp X :: (Ls.map Ex.ln++[.rp X,.bk X])
def vals (es:List Ex):List Value:=es.map Ex.val
set_option maxHeartbeats 1000000 in
theorem order_cb (M:Nat) (w:World) (B:Nat) (cs:Array Value) (pre post:Value) (xs ys:List Value) (L:Nat) (h:Ords M w B cs pre post xs ys) (hM:M≤w.heap.size) (hx:xs.length≤20000000) (hy:ys.length≤20000000) :
   Calls Tryz.prog 98 #[.pointer (some ⟨B,0,none⟩),cbV L] w fun e w'=>e=.returned (.tuple #[])∧∃ pre' post',Ords M w' B cs pre' post' (xs++[cbV L]) (ys++[cbV L])∧Kp (XF B M) w w':=by
 obtain ⟨i0,hi0,hz0,hz1,hz2⟩:=info_parts Tryz.infoExpr
 unfold cbV
 have h18:=h.c18
 have h19:=h.c19
 have hlt:B < w.heap.size:=h.blk.lt
 have hfr:∀ j,w.frozen? ⟨B,j,none⟩=false:=fun j=>h.blk.free j
 have hm1:xs.length+1≤maxLen:=by unfold maxLen;omega
 have hm2:(xs.length+1) * 16≤140737488355328:=by omega
 have hn1:ys.length+1≤maxLen:=by unfold maxLen;omega
 have hn2:(ys.length+1) * 16≤140737488355328:=by omega
 have ho:∀ u ∈ [Value.iface 197 (.pointer (some ⟨L,0,none⟩))],u.oneCell'=true:=by simp [Value.oneCell']
 have hs:∀ (v:World) (a:Obj),M≤v.heap.size→M≤(v.alloc a).heap.size:=fun v a hv=>by simp;omega
 have H:=hide h
 have MM:=hide (And.intro hm1 (And.intro hm2 (And.intro hn1 (And.intro hn2 (And.intro ho hs)))))
 clear h hm1 hm2 hn1 hn2 ho hs
 go_enter Tryz.func98,Tryz.ntmps98
 go_wp2_with (first
   | (at_builtin;refine wpList_append_lies _ rfl _ _ _ rfl M 131 i0 _ 1 16 Tryz.und_exprs hi0 hz0 hz1 hz2 rfl (by omega) _ _ _ (by rfl) (H.out.rpre.alloc _) ⟨w.heap.size,0,none⟩ 1 1 [.iface 197 (.pointer (some ⟨L,0,none⟩))] (by rfl) (by rfl) (news_one _ _ _) MM.out.2.2.2.2.1 (by omega) MM.out.1 MM.out.2.1 (MM.out.2.2.2.2.2 _ _ hM) (w.heap.size+1) (by simp) ?_;intro g cap w3 hown3 hgrow3 hat3 hlt3;obtain ⟨hO2,hK2⟩:=H.out.addPre hM hgrow3 hown3 hat3;have hb3:=Blk.kept (H.out.blk.alloc _) (Kp.of_grownBy hgrow3) (fun e=>by have:=(H.out.rpre.lt B e.symm).1;have:=H.out.lt;omega);have e18:w3.cell? ⟨B,18,none⟩=some pre:=hb3.cell 18 (by have:=H.out.size;simp [this]);have e19:w3.cell? ⟨B,19,none⟩=some post:=hb3.cell 19 (by have:=H.out.size;simp [this]);have f3:∀ j,w3.frozen? ⟨B,j,none⟩=false:=fun j=>hb3.free j;have s3:w3.heap.size=w.heap.size+1∨w.heap.size+1≤w3.heap.size:=Or.inr (by have:=hgrow3.size;simp at this;omega);clear hb3;have HO2:=hide hO2;have HK2:=hide hK2;clear hO2 hK2 hown3 hgrow3 hat3 hlt3)
   | (at_builtin;have hM4:M≤(w3.setCell ⟨B,18,none⟩ (.slice (some ⟨g,0,none⟩) (xs.length+1) cap)).heap.size:=(by simp;omega);have hsz:(w3.setCell ⟨B,18,none⟩ (.slice (some ⟨g,0,none⟩) (xs.length+1) cap)).heap.size=w3.heap.size:=(by simp);generalize hW:w3.setCell ⟨B,18,none⟩ (.slice (some ⟨g,0,none⟩) (xs.length+1) cap)=W at HO2 HK2 hM4 hsz ⊢;clear hW e18 e19 f3 s3;refine wpList_append_lies _ rfl _ _ _ rfl M 131 i0 _ 1 16 Tryz.und_exprs hi0 hz0 hz1 hz2 rfl (by omega) _ _ _ (by rfl) (HO2.out.rpost.alloc _) ⟨w3.heap.size,0,none⟩ 1 1 [.iface 197 (.pointer (some ⟨L,0,none⟩))] (by rfl) (by rfl) (by rw [← hsz];exact news_one _ _ _) MM.out.2.2.2.2.1 (by omega) MM.out.2.2.1 MM.out.2.2.2.1 (MM.out.2.2.2.2.2 _ _ hM4) (w3.heap.size+1) (by simp [hsz]) ?_;intro g' cap' w5 hown3 hgrow3 hat3 hlt3;rw [← hsz] at hat3;obtain ⟨hO4,hK4⟩:=HO2.out.addPost hM4 hgrow3 hown3 hat3;have hb3:=Blk.kept (HO2.out.blk.alloc _) (Kp.of_grownBy hgrow3) (fun e=>by have:=(HO2.out.rpost.lt B e.symm).1;have:=HO2.out.lt;omega);have e19:w5.cell? ⟨B,19,none⟩=some post:=hb3.cell 19 (by have:=HO2.out.size;simp [this]);have f3:∀ j,w5.frozen? ⟨B,j,none⟩=false:=fun j=>hb3.free j;clear hb3;have HO4:=hide hO4;have HK4:=hide hK4;clear hO4 hK4 hown3 hgrow3 hat3 hlt3))
 go_returns
 exact ⟨rfl,_,_,HO4.out,HK2.out.trans HK4.out⟩
set_option maxHeartbeats 1000000 in
theorem order_ln (M:Nat) (w:World) (B:Nat) (cs:Array Value) (pre post:Value) (xs ys:List Value) (L:Nat) (h:Ords M w B cs pre post xs ys) (hM:M≤w.heap.size) (hx:xs.length≤20000000) (hy:ys.length≤20000000) :
   Calls Tryz.prog 98 #[.pointer (some ⟨B,0,none⟩),lineV L] w fun e w'=>e=.returned (.tuple #[])∧∃ pre' post',Ords M w' B cs pre' post' (xs++[lineV L]) (ys++[lineV L])∧Kp (XF B M) w w':=by
 obtain ⟨i0,hi0,hz0,hz1,hz2⟩:=info_parts Tryz.infoExpr
 unfold lineV
 have h18:=h.c18
 have h19:=h.c19
 have hlt:B < w.heap.size:=h.blk.lt
 have hfr:∀ j,w.frozen? ⟨B,j,none⟩=false:=fun j=>h.blk.free j
 have hm1:xs.length+1≤maxLen:=by unfold maxLen;omega
 have hm2:(xs.length+1) * 16≤140737488355328:=by omega
 have hn1:ys.length+1≤maxLen:=by unfold maxLen;omega
 have hn2:(ys.length+1) * 16≤140737488355328:=by omega
 have ho:∀ u ∈ [Value.iface 92 (.pointer (some ⟨L,0,none⟩))],u.oneCell'=true:=by simp [Value.oneCell']
 have hs:∀ (v:World) (a:Obj),M≤v.heap.size→M≤(v.alloc a).heap.size:=fun v a hv=>by simp;omega
 have H:=hide h
 have MM:=hide (And.intro hm1 (And.intro hm2 (And.intro hn1 (And.intro hn2 (And.intro ho hs)))))
 clear h hm1 hm2 hn1 hn2 ho hs
 go_enter Tryz.func98,Tryz.ntmps98
 go_wp2_with (first
   | (at_builtin;refine wpList_append_lies _ rfl _ _ _ rfl M 131 i0 _ 1 16 Tryz.und_exprs hi0 hz0 hz1 hz2 rfl (by omega) _ _ _ (by rfl) (H.out.rpre.alloc _) ⟨w.heap.size,0,none⟩ 1 1 [.iface 92 (.pointer (some ⟨L,0,none⟩))] (by rfl) (by rfl) (news_one _ _ _) MM.out.2.2.2.2.1 (by omega) MM.out.1 MM.out.2.1 (MM.out.2.2.2.2.2 _ _ hM) (w.heap.size+1) (by simp) ?_;intro g cap w3 hown3 hgrow3 hat3 hlt3;obtain ⟨hO2,hK2⟩:=H.out.addPre hM hgrow3 hown3 hat3;have hb3:=Blk.kept (H.out.blk.alloc _) (Kp.of_grownBy hgrow3) (fun e=>by have:=(H.out.rpre.lt B e.symm).1;have:=H.out.lt;omega);have e18:w3.cell? ⟨B,18,none⟩=some pre:=hb3.cell 18 (by have:=H.out.size;simp [this]);have e19:w3.cell? ⟨B,19,none⟩=some post:=hb3.cell 19 (by have:=H.out.size;simp [this]);have f3:∀ j,w3.frozen? ⟨B,j,none⟩=false:=fun j=>hb3.free j;have s3:w3.heap.size=w.heap.size+1∨w.heap.size+1≤w3.heap.size:=Or.inr (by have:=hgrow3.size;simp at this;omega);clear hb3;have HO2:=hide hO2;have HK2:=hide hK2;clear hO2 hK2 hown3 hgrow3 hat3 hlt3)
   | (at_builtin;have hM4:M≤(w3.setCell ⟨B,18,none⟩ (.slice (some ⟨g,0,none⟩) (xs.length+1) cap)).heap.size:=(by simp;omega);have hsz:(w3.setCell ⟨B,18,none⟩ (.slice (some ⟨g,0,none⟩) (xs.length+1) cap)).heap.size=w3.heap.size:=(by simp);generalize hW:w3.setCell ⟨B,18,none⟩ (.slice (some ⟨g,0,none⟩) (xs.length+1) cap)=W at HO2 HK2 hM4 hsz ⊢;clear hW e18 e19 f3 s3;refine wpList_append_lies _ rfl _ _ _ rfl M 131 i0 _ 1 16 Tryz.und_exprs hi0 hz0 hz1 hz2 rfl (by omega) _ _ _ (by rfl) (HO2.out.rpost.alloc _) ⟨w3.heap.size,0,none⟩ 1 1 [.iface 92 (.pointer (some ⟨L,0,none⟩))] (by rfl) (by rfl) (by rw [← hsz];exact news_one _ _ _) MM.out.2.2.2.2.1 (by omega) MM.out.2.2.1 MM.out.2.2.2.1 (MM.out.2.2.2.2.2 _ _ hM4) (w3.heap.size+1) (by simp [hsz]) ?_;intro g' cap' w5 hown3 hgrow3 hat3 hlt3;rw [← hsz] at hat3;obtain ⟨hO4,hK4⟩:=HO2.out.addPost hM4 hgrow3 hown3 hat3;have hb3:=Blk.kept (HO2.out.blk.alloc _) (Kp.of_grownBy hgrow3) (fun e=>by have:=(HO2.out.rpost.lt B e.symm).1;have:=HO2.out.lt;omega);have e19:w5.cell? ⟨B,19,none⟩=some post:=hb3.cell 19 (by have:=HO2.out.size;simp [this]);have f3:∀ j,w5.frozen? ⟨B,j,none⟩=false:=fun j=>hb3.free j;clear hb3;have HO4:=hide hO4;have HK4:=hide hK4;clear hO4 hK4 hown3 hgrow3 hat3 hlt3))
 go_returns
 exact ⟨rfl,_,_,HO4.out,HK2.out.trans HK4.out⟩
set_option maxHeartbeats 1000000 in
theorem order_lp (M:Nat) (w:World) (B:Nat) (cs:Array Value) (pre post:Value) (xs ys:List Value) (L:Nat) (h:Ords M w B cs pre post xs ys) (hM:M≤w.heap.size) (hx:xs.length≤20000000) (hy:ys.length≤20000000) :
   Calls Tryz.prog 98 #[.pointer (some ⟨B,0,none⟩),lpV L] w fun e w'=>e=.returned (.tuple #[])∧∃ pre' post',Ords M w' B cs pre' post' (xs++[lpV L]) (ys++[lpV L])∧Kp (XF B M) w w':=by
 obtain ⟨i0,hi0,hz0,hz1,hz2⟩:=info_parts Tryz.infoExpr
 unfold lpV
 have h18:=h.c18
 have h19:=h.c19
 have hlt:B < w.heap.size:=h.blk.lt
 have hfr:∀ j,w.frozen? ⟨B,j,none⟩=false:=fun j=>h.blk.free j
 have hm1:xs.length+1≤maxLen:=by unfold maxLen;omega
 have hm2:(xs.length+1) * 16≤140737488355328:=by omega
 have hn1:ys.length+1≤maxLen:=by unfold maxLen;omega
 have hn2:(ys.length+1) * 16≤140737488355328:=by omega
 have ho:∀ u ∈ [Value.iface 239 (.pointer (some ⟨L,6,none⟩))],u.oneCell'=true:=by simp [Value.oneCell']
 have hs:∀ (v:World) (a:Obj),M≤v.heap.size→M≤(v.alloc a).heap.size:=fun v a hv=>by simp;omega
 have H:=hide h
 have MM:=hide (And.intro hm1 (And.intro hm2 (And.intro hn1 (And.intro hn2 (And.intro ho hs)))))
 clear h hm1 hm2 hn1 hn2 ho hs
 go_enter Tryz.func98,Tryz.ntmps98
 go_wp2_with (first
   | (at_builtin;refine wpList_append_lies _ rfl _ _ _ rfl M 131 i0 _ 1 16 Tryz.und_exprs hi0 hz0 hz1 hz2 rfl (by omega) _ _ _ (by rfl) (H.out.rpre.alloc _) ⟨w.heap.size,0,none⟩ 1 1 [.iface 239 (.pointer (some ⟨L,6,none⟩))] (by rfl) (by rfl) (news_one _ _ _) MM.out.2.2.2.2.1 (by omega) MM.out.1 MM.out.2.1 (MM.out.2.2.2.2.2 _ _ hM) (w.heap.size+1) (by simp) ?_;intro g cap w3 hown3 hgrow3 hat3 hlt3;obtain ⟨hO2,hK2⟩:=H.out.addPre hM hgrow3 hown3 hat3;have hb3:=Blk.kept (H.out.blk.alloc _) (Kp.of_grownBy hgrow3) (fun e=>by have:=(H.out.rpre.lt B e.symm).1;have:=H.out.lt;omega);have e18:w3.cell? ⟨B,18,none⟩=some pre:=hb3.cell 18 (by have:=H.out.size;simp [this]);have e19:w3.cell? ⟨B,19,none⟩=some post:=hb3.cell 19 (by have:=H.out.size;simp [this]);have f3:∀ j,w3.frozen? ⟨B,j,none⟩=false:=fun j=>hb3.free j;have s3:w3.heap.size=w.heap.size+1∨w.heap.size+1≤w3.heap.size:=Or.inr (by have:=hgrow3.size;simp at this;omega);clear hb3;have HO2:=hide hO2;have HK2:=hide hK2;clear hO2 hK2 hown3 hgrow3 hat3 hlt3)
   | (at_builtin;have hM4:M≤(w3.setCell ⟨B,18,none⟩ (.slice (some ⟨g,0,none⟩) (xs.length+1) cap)).heap.size:=(by simp;omega);have hsz:(w3.setCell ⟨B,18,none⟩ (.slice (some ⟨g,0,none⟩) (xs.length+1) cap)).heap.size=w3.heap.size:=(by simp);generalize hW:w3.setCell ⟨B,18,none⟩ (.slice (some ⟨g,0,none⟩) (xs.length+1) cap)=W at HO2 HK2 hM4 hsz ⊢;clear hW e18 e19 f3 s3;refine wpList_append_lies _ rfl _ _ _ rfl M 131 i0 _ 1 16 Tryz.und_exprs hi0 hz0 hz1 hz2 rfl (by omega) _ _ _ (by rfl) (HO2.out.rpost.alloc _) ⟨w3.heap.size,0,none⟩ 1 1 [.iface 239 (.pointer (some ⟨L,6,none⟩))] (by rfl) (by rfl) (by rw [← hsz];exact news_one _ _ _) MM.out.2.2.2.2.1 (by omega) MM.out.2.2.1 MM.out.2.2.2.1 (MM.out.2.2.2.2.2 _ _ hM4) (w3.heap.size+1) (by simp [hsz]) ?_;intro g' cap' w5 hown3 hgrow3 hat3 hlt3;rw [← hsz] at hat3;obtain ⟨hO4,hK4⟩:=HO2.out.addPost hM4 hgrow3 hown3 hat3;have hb3:=Blk.kept (HO2.out.blk.alloc _) (Kp.of_grownBy hgrow3) (fun e=>by have:=(HO2.out.rpost.lt B e.symm).1;have:=HO2.out.lt;omega);have e19:w5.cell? ⟨B,19,none⟩=some post:=hb3.cell 19 (by have:=HO2.out.size;simp [this]);have f3:∀ j,w5.frozen? ⟨B,j,none⟩=false:=fun j=>hb3.free j;clear hb3;have HO4:=hide hO4;have HK4:=hide hK4;clear hO4 hK4 hown3 hgrow3 hat3 hlt3))
 go_returns
 exact ⟨rfl,_,_,HO4.out,HK2.out.trans HK4.out⟩
set_option maxHeartbeats 1000000 in
theorem order_rp (M:Nat) (w:World) (B:Nat) (cs:Array Value) (pre post:Value) (xs ys:List Value) (L:Nat) (h:Ords M w B cs pre post xs ys) (hM:M≤w.heap.size) (hx:xs.length≤20000000) (hy:ys.length≤20000000) :
   Calls Tryz.prog 98 #[.pointer (some ⟨B,0,none⟩),rpV L] w fun e w'=>e=.returned (.tuple #[])∧∃ pre' post',Ords M w' B cs pre' post' (xs++[rpV L]) (ys++[rpV L])∧Kp (XF B M) w w':=by
 obtain ⟨i0,hi0,hz0,hz1,hz2⟩:=info_parts Tryz.infoExpr
 unfold rpV
 have h18:=h.c18
 have h19:=h.c19
 have hlt:B < w.heap.size:=h.blk.lt
 have hfr:∀ j,w.frozen? ⟨B,j,none⟩=false:=fun j=>h.blk.free j
 have hm1:xs.length+1≤maxLen:=by unfold maxLen;omega
 have hm2:(xs.length+1) * 16≤140737488355328:=by omega
 have hn1:ys.length+1≤maxLen:=by unfold maxLen;omega
 have hn2:(ys.length+1) * 16≤140737488355328:=by omega
 have ho:∀ u ∈ [Value.iface 240 (.pointer (some ⟨L,14,none⟩))],u.oneCell'=true:=by simp [Value.oneCell']
 have hs:∀ (v:World) (a:Obj),M≤v.heap.size→M≤(v.alloc a).heap.size:=fun v a hv=>by simp;omega
 have H:=hide h
 have MM:=hide (And.intro hm1 (And.intro hm2 (And.intro hn1 (And.intro hn2 (And.intro ho hs)))))
 clear h hm1 hm2 hn1 hn2 ho hs
 go_enter Tryz.func98,Tryz.ntmps98
 go_wp2_with (first
   | (at_builtin;refine wpList_append_lies _ rfl _ _ _ rfl M 131 i0 _ 1 16 Tryz.und_exprs hi0 hz0 hz1 hz2 rfl (by omega) _ _ _ (by rfl) (H.out.rpre.alloc _) ⟨w.heap.size,0,none⟩ 1 1 [.iface 240 (.pointer (some ⟨L,14,none⟩))] (by rfl) (by rfl) (news_one _ _ _) MM.out.2.2.2.2.1 (by omega) MM.out.1 MM.out.2.1 (MM.out.2.2.2.2.2 _ _ hM) (w.heap.size+1) (by simp) ?_;intro g cap w3 hown3 hgrow3 hat3 hlt3;obtain ⟨hO2,hK2⟩:=H.out.addPre hM hgrow3 hown3 hat3;have hb3:=Blk.kept (H.out.blk.alloc _) (Kp.of_grownBy hgrow3) (fun e=>by have:=(H.out.rpre.lt B e.symm).1;have:=H.out.lt;omega);have e18:w3.cell? ⟨B,18,none⟩=some pre:=hb3.cell 18 (by have:=H.out.size;simp [this]);have e19:w3.cell? ⟨B,19,none⟩=some post:=hb3.cell 19 (by have:=H.out.size;simp [this]);have f3:∀ j,w3.frozen? ⟨B,j,none⟩=false:=fun j=>hb3.free j;have s3:w3.heap.size=w.heap.size+1∨w.heap.size+1≤w3.heap.size:=Or.inr (by have:=hgrow3.size;simp at this;omega);clear hb3;have HO2:=hide hO2;have HK2:=hide hK2;clear hO2 hK2 hown3 hgrow3 hat3 hlt3)
   | (at_builtin;have hM4:M≤(w3.setCell ⟨B,18,none⟩ (.slice (some ⟨g,0,none⟩) (xs.length+1) cap)).heap.size:=(by simp;omega);have hsz:(w3.setCell ⟨B,18,none⟩ (.slice (some ⟨g,0,none⟩) (xs.length+1) cap)).heap.size=w3.heap.size:=(by simp);generalize hW:w3.setCell ⟨B,18,none⟩ (.slice (some ⟨g,0,none⟩) (xs.length+1) cap)=W at HO2 HK2 hM4 hsz ⊢;clear hW e18 e19 f3 s3;refine wpList_append_lies _ rfl _ _ _ rfl M 131 i0 _ 1 16 Tryz.und_exprs hi0 hz0 hz1 hz2 rfl (by omega) _ _ _ (by rfl) (HO2.out.rpost.alloc _) ⟨w3.heap.size,0,none⟩ 1 1 [.iface 240 (.pointer (some ⟨L,14,none⟩))] (by rfl) (by rfl) (by rw [← hsz];exact news_one _ _ _) MM.out.2.2.2.2.1 (by omega) MM.out.2.2.1 MM.out.2.2.2.1 (MM.out.2.2.2.2.2 _ _ hM4) (w3.heap.size+1) (by simp [hsz]) ?_;intro g' cap' w5 hown3 hgrow3 hat3 hlt3;rw [← hsz] at hat3;obtain ⟨hO4,hK4⟩:=HO2.out.addPost hM4 hgrow3 hown3 hat3;have hb3:=Blk.kept (HO2.out.blk.alloc _) (Kp.of_grownBy hgrow3) (fun e=>by have:=(HO2.out.rpost.lt B e.symm).1;have:=HO2.out.lt;omega);have e19:w5.cell? ⟨B,19,none⟩=some post:=hb3.cell 19 (by have:=HO2.out.size;simp [this]);have f3:∀ j,w5.frozen? ⟨B,j,none⟩=false:=fun j=>hb3.free j;clear hb3;have HO4:=hide hO4;have HK4:=hide hK4;clear hO4 hK4 hown3 hgrow3 hat3 hlt3))
 go_returns
 exact ⟨rfl,_,_,HO4.out,HK2.out.trans HK4.out⟩
end
section
open Go.RowKit Go.Proofs
def BkO (N M:Nat) (w:World) (X:Nat) (Ls:List Nat):Prop :=
 ∃ cs lv,Blk w X 143 cs∧cs[13]?=some lv∧w.ownsRow N 92 1 lv Ls.length (Ls.map pv)∧X < M∧∀ g,lv.ownBlock=some g→g < M
theorem notB {w:World} {B:Nat} {cs:Array Value} (hB:Blk w B 155 cs) {N:Nat} {v:Value} {e:TypeId} {n:Nat} {xs:List Value} (hr:w.ownsRow N e 1 v n xs) (hne:e≠155):∀ g,v.ownBlock=some g→g≠B:=by
 rintro g hg rfl
 exact owns_ne hr hB (fun e=>hne e.symm) hg
theorem BkO.kept {N M:Nat} {w w':World} {B X:Nat} {Ls:List Nat} {cb:Array Value} (h:BkO N M w X Ls) (hB:Blk w B 155 cb) (k:Kp (XF B M) w w'):BkO N M w' X Ls:=by
 obtain ⟨cs,lv,hb,h13,hr,hX,hw⟩:=h
 have hXB:=hb.ne hB (by decide)
 refine ⟨cs,lv,hb.kept k (fun e=>?_),h13,ownsRow_kp hr k (fun g hg e=>?_),hX,hw⟩
 · rcases e with e | e
   · exact hXB e
   · omega
 · rcases e with e | e
   · exact notB hB hr (by decide) g hg e
   · have:=hw g hg;omega
def OBInv (N M:Nat) (w:World) (B X:Nat) (cs:Array Value) (xs ys:List Value) (Ls:List Nat) (a0:Option Addr) (cap0:Nat) (k:Nat) (v73:Value) (wr:World):Prop :=
 ∃ a b pre post,Ls=a++b∧b.length=k∧v73=.int .i64 (a.length:Nat)∧Ords M wr B cs pre post (xs++lbV X :: lpV X :: a.map lineV) (ys++lpV X :: a.map lineV)∧Kp (XF B M) w wr ∧
   wr.ownsRow N 92 1 (.slice a0 Ls.length cap0) Ls.length (Ls.map pv)
set_option maxHeartbeats 2000000 in
theorem order_block (N M:Nat) (w:World) (B X:Nat) (cs:Array Value) (pre post:Value) (xs ys:List Value) (Ls:List Nat) (h:Ords M w B cs pre post xs ys) (hM:M≤w.heap.size) (hX:BkO N M w X Ls)
   (hx:xs.length+Ls.length≤10000000) (hy:ys.length+Ls.length≤10000000) :
   Calls Tryz.prog 98 #[.pointer (some ⟨B,0,none⟩),lbV X] w fun e w'=>e=.returned (.tuple #[])∧∃ pre' post',Ords M w' B cs pre' post' (xs++lbV X :: lpV X :: (Ls.map lineV++[rpV X])) (ys++lpV X :: (Ls.map lineV++[rpV X,lbV X]))∧Kp (XF B M) w w':=by
 obtain ⟨i0,hi0,hz0,hz1,hz2⟩:=info_parts Tryz.infoExpr
 obtain ⟨xc,lv,hXb,hX13,hXr,hXM,hlM'⟩:=hX
 have hnB:=notB h.blk hXr (by decide)
 obtain ⟨a0,cap0,rfl⟩:=owns_any hXr
 have hXB:X≠B:=hXb.ne h.blk (by decide)
 unfold lbV
 have h18:=h.c18
 have h19:=h.c19
 have hlt:B < w.heap.size:=h.blk.lt
 have hfr:∀ j,w.frozen? ⟨B,j,none⟩=false:=fun j=>h.blk.free j
 have hm1:xs.length+1≤maxLen:=by unfold maxLen;omega
 have hm2:(xs.length+1) * 16≤140737488355328:=by omega
 have ho:∀ u ∈ [Value.iface 137 (.pointer (some ⟨X,0,none⟩))],u.oneCell'=true:=by simp [Value.oneCell']
 have hs:∀ (v:World) (a:Obj),M≤v.heap.size→M≤(v.alloc a).heap.size:=fun v a hv=>by simp;omega
 have H:=hide h
 have HXb:=hide hXb
 have HX13:=hide hX13
 have HXr:=hide hXr
 have HLM:=hide (And.intro hlM' hnB)
 have MM:=hide (And.intro hm1 (And.intro hm2 (And.intro ho hs)))
 clear h hm1 hm2 ho hs hXb hX13 hXr hlM' hnB
 go_enter Tryz.func98,Tryz.ntmps98
 go_wp2_with (at_builtin;refine wpList_append_lies _ rfl _ _ _ rfl M 131 i0 _ 1 16 Tryz.und_exprs hi0 hz0 hz1 hz2 rfl (by omega) _ _ _ (by rfl) (H.out.rpre.alloc _) ⟨w.heap.size,0,none⟩ 1 1 [.iface 137 (.pointer (some ⟨X,0,none⟩))] (by rfl) (by rfl) (news_one _ _ _) MM.out.2.2.1 (by omega) MM.out.1 MM.out.2.1 (MM.out.2.2.2 _ _ hM) (w.heap.size+1) (by simp) ?_;intro g cap w3 hown3 hgrow3 hat3 hlt3;obtain ⟨hO2,hK2⟩:=H.out.addPre hM hgrow3 hown3 hat3;have hb3:=Blk.kept (H.out.blk.alloc _) (Kp.of_grownBy hgrow3) (fun e=>by have:=(H.out.rpre.lt B e.symm).1;have:=H.out.lt;omega);have e18:w3.cell? ⟨B,18,none⟩=some pre:=hb3.cell 18 (by have:=H.out.size;simp [this]);have f3:∀ j,w3.frozen? ⟨B,j,none⟩=false:=fun j=>hb3.free j;clear hb3;have HO2:=hide hO2;have HK2:=hide hK2;clear hO2 hK2 hown3 hgrow3 hat3 hlt3)
 generalize hW:w3.setCell ⟨B,18,none⟩ (.slice (some ⟨g,0,none⟩) (xs.length+1) cap)=W at HO2 HK2 ⊢
 clear hW e18 f3
 have hMW:M≤W.heap.size:=Nat.le_trans hM HK2.out.size
 refine (order_lp M W B cs _ post (xs++[lbV X]) ys X HO2.out hMW (by simp;omega) (by omega)).mono ?_
 rintro e w4 ⟨rfl,pre4,post4,hO4,hK4⟩
 have hK:=HK2.out.trans hK4
 have hXb4:Blk w4 X 143 xc:=HXb.out.kept hK (fun e=>by rcases e with e | e <;> omega)
 have hXr4:=ownsRow_kp HXr.out hK (fun g hg e=>by
   rcases e with e | e
   · exact HLM.out.2 g hg e
   · have:=HLM.out.1 g hg;omega)
 have q13:w4.cell? ⟨X,13,none⟩=some (.slice a0 Ls.length cap0):=hXb4.cell 13 HX13.out
 have HO4:=hide hO4
 have HK4:=hide hK
 have HXr4:=hide hXr4
 clear hO4 hK4 hK hXb4 hXr4 HO2 HK2
 go_wp2_with fail
 go_loopg [73] Ls.length (fun k v73 wr=>Hid (OBInv N M w B X cs xs ys Ls a0 cap0 k v73 wr))
 case atStart=>exact hide ⟨[],Ls,_,_,rfl,rfl,rfl,by simpa using HO4.out,HK4.out,HXr4.out⟩
 case round =>
   obtain ⟨a,b,pre5,post5,hab,hbl,rfl,hO,hK,hr5⟩:=hrel.out
   clear hrel HO4 HXr4
   have hgl:a.length+b.length=Ls.length:=by have:=congrArg List.length hab;simpa using this.symm
   have HO:=hide hO
   have HK:=hide hK
   have HR5:=hide hr5
   clear hO hK hr5
   have hwM:M≤wr.heap.size:=Nat.le_trans hM HK.out.size
   rcases b with _ | ⟨L,b⟩
   · have hge:((a.length:Int) < (Ls.length:Int))=False:=by simp at hgl;simp;omega
     have hal:Ls=a:=by simpa using hab
     have HAL:=hide hal
     clear hal hab
     go_wp2_with fail
     refine (order_rp M wr B cs pre5 post5 _ _ X HO.out hwM (by simp at hgl ⊢;omega) (by simp at hgl ⊢;omega)).mono ?_
     rintro e w6 ⟨rfl,pre6,post6,hO6,hK6⟩
     have hwM6:M≤w6.heap.size:=Nat.le_trans hwM hK6.size
     have e18:=hO6.c18
     have e19:=hO6.c19
     have f3:∀ j,w6.frozen? ⟨B,j,none⟩=false:=fun j=>hO6.blk.free j
     obtain ⟨pn,hpn⟩:∃ n,n=(ys++lpV X :: a.map lineV++[rpV X]).length:=⟨_,rfl⟩
     have hpn2:pn≤20000000:=by rw [hpn];simp at hgl ⊢;omega
     have hml:pn+1≤maxLen:=by unfold maxLen;omega
     have hmb:pn * 1+1≤140737488355328:=by omega
     have hmc:(pn+1) * 16≤140737488355328:=by omega
     have hms:M≤(w6.alloc (Obj.cells #[Value.iface 137 (.pointer (some ⟨X,0,none⟩))] 131)).heap.size:=by simp;omega
     have hrp:=hO6.rpost
     rw [← hpn] at hrp
     have M2:=hide (And.intro hml (And.intro hmc (And.intro hms hrp)))
     have HO6:=hide hO6
     have HK6:=hide (HK.out.trans hK6)
     have HPN:=hide hpn
     clear hml hmb hmc hms hO6 hK6 hrp hpn
     go_wp2_with (at_builtin;refine wpList_append_lies _ rfl _ _ _ rfl M 131 i0 _ 1 16 Tryz.und_exprs hi0 hz0 hz1 hz2 rfl (by omega) _ _ _ (by rfl) (M2.out.2.2.2.alloc _) ⟨w6.heap.size,0,none⟩ 1 1 [.iface 137 (.pointer (some ⟨X,0,none⟩))] (by rfl) (by rfl) (news_one _ _ _) MM.out.2.2.1 (by omega) M2.out.1 M2.out.2.1 M2.out.2.2.1 (w6.heap.size+1) (by simp) ?_;intro g' cap' w5 hown3 hgrow3 hat3 hlt3;obtain ⟨hO7,hK7⟩:=HO6.out.addPost hwM6 hgrow3 hown3 hat3;have hb3:=Blk.kept (HO6.out.blk.alloc _) (Kp.of_grownBy hgrow3) (fun e=>by have:=(HO6.out.rpost.lt B e.symm).1;have:=HO6.out.lt;omega);have e19:w5.cell? ⟨B,19,none⟩=some post6:=hb3.cell 19 (by have:=HO6.out.size;simp [this]);have f3:∀ j,w5.frozen? ⟨B,j,none⟩=false:=fun j=>hb3.free j;clear hb3;have HO7:=hide hO7;have HK7:=hide hK7;clear hO7 hK7 hown3 hgrow3 hat3 hlt3)
     go_returns
     have h1:=HO7.out
     have h2:=HK6.out.trans HK7.out
     rw [← HAL.out] at h1
     refine ⟨rfl,pre6,.slice (some ⟨g',0,none⟩) (pn+1) cap',?_,h2⟩
     simpa [lbV] using h1
   · have hlt2:(a.length:Int) < (Ls.length:Int):=by simp at hgl;omega
     have h0:(0:Int)≤(a.length:Int):=by omega
     obtain ⟨m,hm⟩:∃ m,Ls.length=m+1:=⟨Ls.length - 1,by simp at hgl;omega⟩
     have hrr:=HR5.out
     obtain ⟨g0,c0,hg0⟩:∃ g c,(Value.slice a0 Ls.length cap0)=.slice (some ⟨g,0,none⟩) Ls.length c:=by
       have h2:=hrr
       rw [hm] at h2 ⊢
       exact owns_form h2
     simp only [Value.slice.injEq] at hg0
     obtain ⟨rfl,_,rfl⟩:=hg0
     have hel:wr.cell? ⟨g0,a.length,none⟩=some (pv L):=by
       rw [hrr.cellAt a.length (by omega),hab]
       simp
     unfold pv at hel
     clear hrr
     have HAB:=hide hab
     clear hab hm
     go_wp2_with fail
     refine (order_ln M wr B cs pre5 post5 _ _ L HO.out hwM (by simp at hgl ⊢;omega) (by simp at hgl ⊢;omega)).mono ?_
     rintro e w2 ⟨rfl,pre2,post2,hO2,hK2⟩
     have HO2:=hide hO2
     have HK2:=hide hK2
     have HR2:=hide (ownsRow_kp HR5.out hK2 (fun g hg e=>by
       rcases e with e | e
       · exact HLM.out.2 g hg e
       · have:=HLM.out.1 g hg;omega))
     clear hO2 hK2
     go_wp2_with fail
     go_roundg b.length
     case measure=>simp at hbl;omega
     case rel =>
       refine hide ⟨a++[L],b,pre2,post2,by rw [HAB.out];simp,rfl,?_,?_,HK.out.trans HK2.out,by simpa using HR2.out⟩
       · simp
       · simpa using HO2.out
def NdO (N M:Nat) (w:World):Nd→Prop
 | .bk X Ls=>BkO N M w X Ls
 | _=>True
theorem NdO.kept {N M:Nat} {w w':World} {B:Nat} {nd:Nd} {cb:Array Value} (h:NdO N M w nd) (hB:Blk w B 155 cb) (k:Kp (XF B M) w w'):NdO N M w' nd:=by
 cases nd with
 | cb _=>trivial
 | ln _=>trivial
 | bk X Ls=>exact BkO.kept h hB k
theorem pre_len (nd:Nd):nd.pre.length≤nd.ids.length+2∧nd.post.length=nd.pre.length:=by
 cases nd <;> simp [Nd.pre,Nd.post,Nd.ids]
theorem order_node (N M:Nat) (w:World) (B:Nat) (nd:Nd) (cs:Array Value) (pre post:Value) (xs ys:List Value) (h:Ords M w B cs pre post xs ys) (hM:M≤w.heap.size) (hX:NdO N M w nd)
   (hx:xs.length+nd.ids.length≤10000000) (hy:ys.length+nd.ids.length≤10000000) :
   Calls Tryz.prog 98 #[.pointer (some ⟨B,0,none⟩),nd.val] w fun e w'=>e=.returned (.tuple #[])∧∃ pre' post',Ords M w' B cs pre' post' (xs++vals nd.pre) (ys++vals nd.post)∧Kp (XF B M) w w':=by
 cases nd with
 | cb C=>exact order_cb M w B cs pre post xs ys C h hM (by omega) (by omega)
 | ln L=>exact order_ln M w B cs pre post xs ys L h hM (by omega) (by omega)
 | bk X Ls =>
   have hm:List.map (Ex.val ∘ Ex.ln) Ls=Ls.map lineV:=rfl
   have e1:vals (Nd.pre (.bk X Ls))=lbV X :: lpV X :: (Ls.map lineV++[rpV X]):=by simp [vals,Nd.pre,Ex.val,hm]
   have e2:vals (Nd.post (.bk X Ls))=lpV X :: (Ls.map lineV++[rpV X,lbV X]):=by simp [vals,Nd.post,Ex.val,hm]
   rw [e1,e2]
   simp only [Nd.ids,List.length_cons] at hx hy
   exact order_block N M w B X cs pre post xs ys Ls h hM hX (by omega) (by omega)
def preAll (ns:List Nd):List Ex:=ns.flatMap Nd.pre
def postAll (ns:List Nd):List Ex:=ns.flatMap Nd.post
def OTInv (N M:Nat) (w:World) (B F:Nat) (cs:Array Value) (ns:List Nd) (a0:Option Addr) (cap0:Nat) (k:Nat) (v51:Value) (wr:World):Prop :=
 ∃ a b pre post,ns=a++b∧b.length=k∧v51=.int .i64 (a.length:Nat)∧Ords M wr B cs pre post (fileV F :: vals (preAll a)) (vals (postAll a))∧Kp (XF B M) w wr ∧
   wr.ownsRow N 131 1 (.slice a0 ns.length cap0) ns.length (ns.map Nd.val)∧∀ nd ∈ ns,NdO N M wr nd
theorem preAll_len (ns:List Nd):(preAll ns).length≤(idsOf ns).length+2 * ns.length∧(postAll ns).length=(preAll ns).length:=by
 induction ns with
 | nil=>simp [preAll,postAll,idsOf]
 | cons nd ns ih =>
   have:=pre_len nd
   simp only [preAll,postAll,idsOf,List.flatMap_cons,List.length_append,List.length_cons] at ih ⊢
   omega
set_option maxHeartbeats 2000000 in
theorem order_tree (N:Nat) (w:World) (B F:Nat) (nm:ByteArray) (cs:Array Value) (ns:List Nd) (h:Ords w.heap.size w B cs nilS nilS [] []) (hF:FileAt N w F nm (ns.map Nd.val)) (hns:∀ nd ∈ ns,NdO N w.heap.size w nd) (hl:ns.length+(idsOf ns).length≤5000000) :
   Calls Tryz.prog 98 #[.pointer (some ⟨B,0,none⟩),fileV F] w fun e w'=>e=.returned (.tuple #[])∧∃ pre' post',Ords w.heap.size w' B cs pre' post' (fileV F :: vals (preAll ns)) (vals (postAll ns)++[fileV F])∧Kp (XF B w.heap.size) w w':=by
 obtain ⟨i0,hi0,hz0,hz1,hz2⟩:=info_parts Tryz.infoExpr
 obtain ⟨v,hFb,hFo⟩:=hF
 have hFB:F≠B:=hFb.ne h.blk (by decide)
 rw [List.length_map] at hFo
 have hnB:=notB h.blk hFo (by decide)
 have hnM:∀ g,v.ownBlock=some g→g < w.heap.size:=fun g hg=>(hFo.lt g hg).2
 obtain ⟨a0,cap0,rfl⟩:=owns_any hFo
 have hFl:=hFb.lt
 unfold fileV
 have h18:w.cell? ⟨B,18,none⟩=some (.slice none 0 0):=h.c18
 have h19:w.cell? ⟨B,19,none⟩=some (.slice none 0 0):=h.c19
 have hlt:B < w.heap.size:=h.blk.lt
 have hfr:∀ j,w.frozen? ⟨B,j,none⟩=false:=fun j=>h.blk.free j
 have hk1:0+1≤maxLen:=by unfold maxLen;omega
 have ho:∀ u ∈ [Value.iface 87 (.pointer (some ⟨F,0,none⟩))],u.oneCell'=true:=by simp [Value.oneCell']
 have H:=hide h
 have HFb:=hide hFb
 have HFo:=hide hFo
 have HNS:=hide hns
 have HLM:=hide (And.intro hnM hnB)
 have MM:=hide (And.intro hk1 ho)
 clear h hk1 ho hFb hFo hns hnM hnB
 go_enter Tryz.func98,Tryz.ntmps98
 go_wp2_with (at_builtin;refine wpList_append_lies _ rfl _ _ _ rfl w.heap.size 131 i0 _ 1 16 Tryz.und_exprs hi0 hz0 hz1 hz2 rfl (by omega) _ _ _ (by rfl) (H.out.rpre.alloc _) ⟨w.heap.size,0,none⟩ 1 1 [.iface 87 (.pointer (some ⟨F,0,none⟩))] (by rfl) (by rfl) (news_one _ _ _) MM.out.2 (by omega) MM.out.1 (by simp) (by simp) (w.heap.size+1) (by simp) ?_;intro g cap w3 hown3 hgrow3 hat3 hlt3;obtain ⟨hO2,hK2⟩:=H.out.addPre (Nat.le_refl _) hgrow3 hown3 hat3;have hb3:=Blk.kept (H.out.blk.alloc (Obj.cells #[Value.iface 87 (.pointer (some ⟨F,0,none⟩))] 131)) (Kp.of_grownBy hgrow3) (fun e=>by cases e);have hF3:=Blk.kept (HFb.out.alloc (Obj.cells #[Value.iface 87 (.pointer (some ⟨F,0,none⟩))] 131)) (Kp.of_grownBy hgrow3) (fun e=>by cases e);have e18:w3.cell? ⟨B,18,none⟩=some (.slice none 0 0):=hb3.cell 18 (by have:=H.out.size;simp [this,nilS]);have e4:w3.cell? ⟨F,4,none⟩=some (.slice a0 ns.length cap0):=hF3.cell 4 rfl;have f3:∀ j,w3.frozen? ⟨B,j,none⟩=false:=fun j=>hb3.free j;clear hb3 hF3;have HO2:=hide hO2;have HK2:=hide hK2;clear hO2 hK2 hown3 hgrow3 hat3 hlt3)
 have hrow:∀ wr:World,Kp (XF B w.heap.size) w wr→wr.ownsRow N 131 1 (.slice a0 ns.length cap0) ns.length (ns.map Nd.val):=fun wr k=>ownsRow_kp HFo.out k (fun g hg e=>by
   rcases e with e | e
   · exact HLM.out.2 g hg e
   · have:=HLM.out.1 g hg;omega)
 have HROW:=hide hrow
 clear hrow
 generalize hW:w3.setCell ⟨B,18,none⟩ (.slice (some ⟨g,0,none⟩) 1 cap)=W at HO2 HK2 ⊢
 clear hW e18 e4 f3
 go_loopg [51] ns.length (fun k v51 wr=>Hid (OTInv N w.heap.size w B F cs ns a0 cap0 k v51 wr))
 case atStart=>exact hide ⟨[],ns,_,_,rfl,rfl,rfl,by simpa [preAll,postAll,vals,fileV] using HO2.out,HK2.out,HROW.out _ HK2.out,fun nd hnd=>(HNS.out nd hnd).kept H.out.blk HK2.out⟩
 case round =>
   obtain ⟨a,b,pre5,post5,hab,hbl,rfl,hO,hK,hr5,hnd⟩:=hrel.out
   clear hrel HO2 HK2
   have hgl:a.length+b.length=ns.length:=by have:=congrArg List.length hab;simpa using this.symm
   have hal2:(idsOf a).length+(idsOf b).length=(idsOf ns).length:=by rw [hab];simp [idsOf_append]
   have hpl:=preAll_len a
   have HO:=hide hO
   have HK:=hide hK
   have HR5:=hide hr5
   have HND:=hide hnd
   clear hO hK hr5 hnd
   have hwM:w.heap.size≤wr.heap.size:=HK.out.size
   rcases b with _ | ⟨nd,b⟩
   · have hge:((a.length:Int) < (ns.length:Int))=False:=by simp at hgl;simp;omega
     have hal:ns=a:=by simpa using hab
     have HAL:=hide hal
     clear hal hab
     have e18:=HO.out.c18
     have e19:=HO.out.c19
     have f3:∀ j,wr.frozen? ⟨B,j,none⟩=false:=fun j=>HO.out.blk.free j
     obtain ⟨pn,hpn⟩:∃ n,n=(vals (postAll a)).length:=⟨_,rfl⟩
     have hpn2:pn≤20000000:=by rw [hpn];simp [vals] at hgl ⊢;omega
     have hml:pn+1≤maxLen:=by unfold maxLen;omega
     have hmc:(pn+1) * 16≤140737488355328:=by omega
     have hms:w.heap.size≤(wr.alloc (Obj.cells #[Value.iface 87 (.pointer (some ⟨F,0,none⟩))] 131)).heap.size:=by simp;omega
     have hrp:=HO.out.rpost
     rw [← hpn] at hrp
     have M2:=hide (And.intro hml (And.intro hmc (And.intro hms hrp)))
     have HPN:=hide hpn
     clear hml hmc hms hrp hpn
     go_wp2_with (at_builtin;refine wpList_append_lies _ rfl _ _ _ rfl w.heap.size 131 i0 _ 1 16 Tryz.und_exprs hi0 hz0 hz1 hz2 rfl (by omega) _ _ _ (by rfl) (M2.out.2.2.2.alloc _) ⟨wr.heap.size,0,none⟩ 1 1 [.iface 87 (.pointer (some ⟨F,0,none⟩))] (by rfl) (by rfl) (news_one _ _ _) MM.out.2 (by omega) M2.out.1 M2.out.2.1 M2.out.2.2.1 (wr.heap.size+1) (by simp) ?_;intro g' cap' w5 hown3 hgrow3 hat3 hlt3;obtain ⟨hO7,hK7⟩:=HO.out.addPost hwM hgrow3 hown3 hat3;have hb3:=Blk.kept (HO.out.blk.alloc _) (Kp.of_grownBy hgrow3) (fun e=>by have:=(HO.out.rpost.lt B e.symm).1;have:=HO.out.lt;omega);have e19:w5.cell? ⟨B,19,none⟩=some post5:=hb3.cell 19 (by have:=HO.out.size;simp [this]);have f3:∀ j,w5.frozen? ⟨B,j,none⟩=false:=fun j=>hb3.free j;clear hb3;have HO7:=hide hO7;have HK7:=hide hK7;clear hO7 hK7 hown3 hgrow3 hat3 hlt3)
     go_returns
     have h1:=HO7.out
     have h2:=HK.out.trans HK7.out
     rw [← HAL.out] at h1
     exact ⟨rfl,pre5,.slice (some ⟨g',0,none⟩) (pn+1) cap',h1,h2⟩
   · have hlt2:(a.length:Int) < (ns.length:Int):=by simp at hgl;omega
     have h0:(0:Int)≤(a.length:Int):=by omega
     obtain ⟨m,hm⟩:∃ m,ns.length=m+1:=⟨ns.length - 1,by simp at hgl;omega⟩
     have hrr:=HR5.out
     obtain ⟨g0,c0,hg0⟩:∃ g c,(Value.slice a0 ns.length cap0)=.slice (some ⟨g,0,none⟩) ns.length c:=by
       have h2:=hrr
       rw [hm] at h2 ⊢
       exact owns_form h2
     simp only [Value.slice.injEq] at hg0
     obtain ⟨rfl,_,rfl⟩:=hg0
     have hel:wr.cell? ⟨g0,a.length,none⟩=some nd.val:=by
       rw [hrr.cellAt a.length (by omega),hab]
       simp
     have hib:nd.ids.length+(idsOf b).length=(idsOf (nd :: b)).length:=by simp [idsOf]
     clear hrr
     have HC:=hide (order_node N w.heap.size wr B nd cs pre5 post5 _ _ HO.out hwM (HND.out nd (by rw [hab];simp)) (by simp [vals] at hgl ⊢;omega) (by simp [vals] at hgl ⊢;omega))
     have HAB:=hide hab
     clear hab hm
     go_wp2_with fail
     refine HC.out.mono ?_
     rintro e w2 ⟨rfl,pre2,post2,hO2,hK2⟩
     have HO2:=hide hO2
     have HK2:=hide hK2
     clear hO2 hK2
     go_wp2_with fail
     go_roundg b.length
     case measure=>simp at hbl;omega
     case rel =>
       refine hide ⟨a++[nd],b,pre2,post2,by rw [HAB.out];simp,rfl,?_,?_,HK.out.trans HK2.out,HROW.out _ (HK.out.trans HK2.out),fun x hx=>(HND.out x hx).kept HO.out.blk HK2.out⟩
       · simp
       · simpa [preAll,postAll,vals] using HO2.out
end
end Go.Proofs.YtifkpibjeamfkaaGreatFmt
