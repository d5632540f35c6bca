/-
  strings.HasPrefix, HasSuffix, TrimPrefix, TrimSuffix: contracts over this program (after the shelf's worked text).
  slices.Backward over a tree's order.
  Type assertions to pointer types.
  A quiet region in a round of a range over a function.
-/
import Derived.Test.YtifkpibjeamfkaaGreatFmtZ01
import Derived.Lib.Walk
import Derived.Lib.Strings
import Derived.Lib.Slices
import Derived.Laws.Strings3
import Derived.RangeFuncNested
import Derived.RangeFuncBound
import Derived.RangeFuncCalls
import Derived.RangeFuncLeaves
import Derived.RangeFuncBox
import Derived.RangeFuncFrom
import Derived.Shelf.Abstract
import Derived.Shelf.RegionOpen
import Derived.OwnWalkIn
import Derived.TacticsInMore
import Derived.LoopNIn
import Derived.LoopIn
import Derived.Stop.Asserts
import Derived.Sort.QuietIn
import Derived.Sort.BigQuietIn
import Derived.Sort.QuietTacIn
import Derived.Sort.QuietThIn
import Derived.TacticsIn
set_option linter.unusedVariables false
set_option linter.unusedSimpArgs false
set_option maxRecDepth 100000
namespace Go.Proofs.YtifkpibjeamfkaaGreatFmt
section
open Go.RowKit Go.Proofs
def mkS (l:List UInt8):ByteArray:=⟨l.toArray⟩
theorem mkS_list (l:List UInt8):(mkS l).data.toList=l:=rfl
theorem mkS_size (l:List UInt8):(mkS l).size=l.length:=by simp [mkS,ByteArray.size]
theorem mkS_of (s:ByteArray):mkS s.data.toList=s:=by cases s;simp [mkS]
set_option maxHeartbeats 1000000 in
theorem slHasPrefix (s p:ByteArray) (w:World) :
   Calls Tryz.prog 137 #[.string s,.string p] w fun e w'=>e=.returned (.bool (Lib.hasPrefix s.data.toList p.data.toList))∧w'=w:=by
 rw [← Lib.hasPrefix_of_take,← Lib.size_eq,← Lib.size_eq]
 go_enter Tryz.func137,Tryz.ntmps137
 go_wp2
 · rename_i h
   go_ret
   refine ⟨?_,rfl⟩
   show Ending.returned (Value.bool ((s.extract 0 p.size).toList == p.toList))=_
   rw [Lib.extract_toList,Lib.toList_data]
   simp [h]
 · rename_i h
   go_ret
   refine ⟨?_,rfl⟩
   show Ending.returned (Value.bool false)=_
   simp [h]
theorem hasPrefix_any (s p:ByteArray) (w:World) :
   Calls Tryz.prog 104 #[.string s,.string p] w fun e w'=>e=.returned (.bool (Lib.hasPrefix s.data.toList p.data.toList))∧w=w':=by
 go_enter Tryz.func104,Tryz.ntmps104
 go_wp2_with (go_at_call 137;refine (slHasPrefix _ _ _).mono ?_;rintro e w' ⟨rfl,hw⟩;rw [hw])
 go_ret
 exact ⟨rfl,rfl⟩
set_option maxHeartbeats 1000000 in
theorem slHasSuffix (s p:ByteArray) (w:World) (hs:s.size≤9223372036854775807) :
   Calls Tryz.prog 141 #[.string s,.string p] w fun e w'=>e=.returned (.bool (Lib.hasSuffix s.data.toList p.data.toList))∧w'=w:=by
 rw [← Lib.hasSuffix_raw]
 have hlo:p.size≤s.size→((s.size:Int) - (p.size:Int)+9223372036854775808) % 18446744073709551616 - 9223372036854775808=((s.size - p.size:Nat):Int):=fun _=>by omega
 go_enter Tryz.func141,Tryz.ntmps141
 go_wp2
 · have h:p.size≤s.size:=by assumption
   go_ret
   refine ⟨?_,rfl⟩
   show Ending.returned (Value.bool ((s.extract (s.size - p.size) s.size).toList == p.toList))=_
   simp [h]
 · have h:¬ p.size≤s.size:=by assumption
   go_ret
   refine ⟨?_,rfl⟩
   show Ending.returned (Value.bool false)=_
   simp [h]
theorem hasSuffix_any (s p:ByteArray) (w:World) (hs:s.size≤9223372036854775807) :
   Calls Tryz.prog 110 #[.string s,.string p] w fun e w'=>e=.returned (.bool (Lib.hasSuffix s.data.toList p.data.toList))∧w=w':=by
 go_enter Tryz.func110,Tryz.ntmps110
 go_wp2_with (go_at_call 141;refine (slHasSuffix _ _ _ hs).mono ?_;rintro e w' ⟨rfl,hw⟩;rw [hw])
 go_ret
 exact ⟨rfl,rfl⟩
set_option maxHeartbeats 1000000 in
theorem slTrimPrefix (s p:ByteArray) (w:World) :
   Calls Tryz.prog 135 #[.string s,.string p] w fun e w'=>e=.returned (.string (mkS (Lib.trimPrefix s.data.toList p.data.toList)))∧w'=w:=by
 by_cases h1:p.size≤s.size
 · cases h2:((s.extract 0 p.size).toList == p.toList)
   · have hh:Lib.hasPrefix s.data.toList p.data.toList=false:=by rw [← Lib.hasPrefix_raw,h2];simp
     go_enter Tryz.func135,Tryz.ntmps135
     go_wp2_with (go_at_call 137;refine (slHasPrefix _ _ _ ).mono ?_;rintro e w' ⟨rfl,hw⟩;rw [hw,hh])
     go_ret
     refine ⟨?_,rfl⟩
     unfold mkS
     rw [Lib.trimPrefix_miss s p (by rw [h2];simp)]
     rfl
   · have hh:Lib.hasPrefix s.data.toList p.data.toList=true:=by rw [← Lib.hasPrefix_raw,h2];simp [h1]
     go_enter Tryz.func135,Tryz.ntmps135
     go_wp2_with (go_at_call 137;refine (slHasPrefix _ _ _ ).mono ?_;rintro e w' ⟨rfl,hw⟩;rw [hw,hh])
     go_ret
     refine ⟨?_,rfl⟩
     unfold mkS
     rw [Lib.trimPrefix_hit s p h1 h2]
     rfl
 · have hh:Lib.hasPrefix s.data.toList p.data.toList=false:=by rw [← Lib.hasPrefix_raw];simp [h1]
   go_enter Tryz.func135,Tryz.ntmps135
   go_wp2_with (go_at_call 137;refine (slHasPrefix _ _ _ ).mono ?_;rintro e w' ⟨rfl,hw⟩;rw [hw,hh])
   go_ret
   refine ⟨?_,rfl⟩
   unfold mkS
   rw [Lib.trimPrefix_miss s p (by simp [h1])]
   rfl
theorem trimPrefix_any (s p:ByteArray) (w:World) :
   Calls Tryz.prog 102 #[.string s,.string p] w fun e w'=>e=.returned (.string (mkS (Lib.trimPrefix s.data.toList p.data.toList)))∧w=w':=by
 go_enter Tryz.func102,Tryz.ntmps102
 go_wp2_with (go_at_call 135;refine (slTrimPrefix _ _ _ ).mono ?_;rintro e w' ⟨rfl,hw⟩;rw [hw])
 go_ret
 exact ⟨rfl,rfl⟩
set_option maxHeartbeats 1000000 in
theorem slTrimSuffix (s p:ByteArray) (w:World) (hs:s.size≤9223372036854775807) :
   Calls Tryz.prog 142 #[.string s,.string p] w fun e w'=>e=.returned (.string (mkS (Lib.trimSuffix s.data.toList p.data.toList)))∧w'=w:=by
 by_cases h1:p.size≤s.size
 · cases h2:((s.extract (s.size - p.size) s.size).toList == p.toList)
   · have hh:Lib.hasSuffix s.data.toList p.data.toList=false:=by rw [← Lib.hasSuffix_raw,h2];simp
     go_enter Tryz.func142,Tryz.ntmps142
     go_wp2_with (go_at_call 141;refine (slHasSuffix _ _ _ hs).mono ?_;rintro e w' ⟨rfl,hw⟩;rw [hw,hh])
     go_ret
     refine ⟨?_,rfl⟩
     unfold mkS
     rw [Lib.trimSuffix_miss s p (by rw [h2];simp)]
     rfl
   · have hh:Lib.hasSuffix s.data.toList p.data.toList=true:=by rw [← Lib.hasSuffix_raw,h2];simp [h1]
     go_enter Tryz.func142,Tryz.ntmps142
     go_wp2_with (go_at_call 141;refine (slHasSuffix _ _ _ hs).mono ?_;rintro e w' ⟨rfl,hw⟩;rw [hw,hh])
     go_ret
     refine ⟨?_,rfl⟩
     unfold mkS
     rw [Lib.trimSuffix_hit s p h1 h2]
     rfl
 · have hh:Lib.hasSuffix s.data.toList p.data.toList=false:=by rw [← Lib.hasSuffix_raw];simp [h1]
   go_enter Tryz.func142,Tryz.ntmps142
   go_wp2_with (go_at_call 141;refine (slHasSuffix _ _ _ hs).mono ?_;rintro e w' ⟨rfl,hw⟩;rw [hw,hh])
   go_ret
   refine ⟨?_,rfl⟩
   unfold mkS
   rw [Lib.trimSuffix_miss s p (by simp [h1])]
   rfl
theorem trimSuffix_any (s p:ByteArray) (w:World) (hs:s.size≤9223372036854775807) :
   Calls Tryz.prog 111 #[.string s,.string p] w fun e w'=>e=.returned (.string (mkS (Lib.trimSuffix s.data.toList p.data.toList)))∧w=w':=by
 go_enter Tryz.func111,Tryz.ntmps111
 go_wp2_with (go_at_call 142;refine (slTrimSuffix _ _ _ hs).mono ?_;rintro e w' ⟨rfl,hw⟩;rw [hw])
 go_ret
 exact ⟨rfl,rfl⟩
end
section
open Go.RowKit Go.Shelf Go.Proofs
attribute [local go_sem] Oper.semAt_some
def backEnc (zs:List Value) (i:Fin zs.length):Array Value:=#[.int .i64 (i.1:Int),zs[i.1]]
set_option maxHeartbeats 2000000 in
theorem back1_in (F:Fence) (n:Nat) (h8:F.fn 134) (hro:F.round=none) (hn:1≤n) (l Bs n₀ b cap:Nat) (zs:List Value) (hreach:zs.length≤1000000) (hb:b < n₀) (J Jx:List (Fin zs.length)→World→Prop)
   (hY:∀ pre x W,J pre W→pre.length < zs.length→YieldAt F (n - 1) Tryz.prog l (backEnc zs x) W fun e W' =>
     (e=.returned (.bool true)∧J (pre++[x]) W'∧Below n₀ W W')∨(e=.returned (.bool false)∧Jx (pre++[x]) W'))
   (W:World) (hBs:W.cell? ⟨Bs,0,none⟩=some (.slice (some ⟨b,0,none⟩) zs.length cap)) (hBl:Bs < n₀) (hc:∀ j (h:j < zs.length),W.cell? ⟨b,j,none⟩=some zs[j]) (h0:J [] W) :
   CallsIn F n Tryz.prog 134 #[.func (.yield l) #[] #[],.pointer (some ⟨Bs,0,none⟩)] W fun e W'=>(∃ v,e=.returned v) ∧
     ((∃ ys,True∧J ys W')∨(∃ pre,True∧Jx pre W')):=by
 refine callsIn_of_wp Tryz.func134 rfl h8 ?_ hro
 simp only [Tryz.ntmps134,List.size_toArray,List.length_cons,List.length_nil,Nat.reduceAdd,Nat.reduceSub,Array.replicate_succ,Array.replicate_zero,List.push_toArray,List.append_toArray,List.nil_append,List.cons_append]
 have hw:wrap64 ((zs.length:Int) - 1)=(zs.length:Int) - 1:=by unfold wrap64;omega
 gi_wp2
 gi_loopw [3] (fun i wr=>∃ (k:Nat) (pre:List (Fin zs.length)),k≤zs.length∧pre.length=zs.length - k∧i=.int .i64 ((k:Int) - 1)∧J pre wr∧Below n₀ W wr)
   (fun i _=>(intOf i+1).toNat)
 case atStart=>exact ⟨zs.length,[],Nat.le_refl _,by simp,by first | rfl | simp [hw],h0,Below.refl _ _⟩
 case round =>
   obtain ⟨k,pre,hk,hp,rfl,hJs,hnx⟩:=hrel
   have hBs':wr.cell? ⟨Bs,0,none⟩=some (.slice (some ⟨b,0,none⟩) zs.length cap):=(hnx.cell (p:=⟨Bs,0,none⟩) hBl).trans hBs
   rcases Nat.eq_zero_or_pos k with hk0 | hk0
   · subst hk0
     gi_wp2
     go_end0
     exact ⟨⟨_,rfl⟩,.inl ⟨pre,True.intro,hJs⟩⟩
   · obtain ⟨j,rfl⟩:∃ j,k=j+1:=⟨k - 1,by omega⟩
     have hj:j < zs.length:=by omega
     obtain ⟨fn,tmps,assign,body,hy,hR⟩:=hY pre ⟨j,hj⟩ wr hJs (by omega)
     have he:((j+1:Nat):Int) - 1=(j:Int):=by omega
     rw [he]
     have hcx:wr.cell? ⟨b,j,none⟩=some zs[j]:=(hnx.cell (p:=⟨b,j,none⟩) hb).trans (hc j hj)
     have hw2:wrap64 ((j:Int) - 1)=(j:Int) - 1:=by unfold wrap64;omega
     simp only [backEnc] at hy
     gi_wp2
     refine hR.mono ?_
     rintro e W3 (⟨rfl,hJ3,hk3⟩ | ⟨rfl,hJx3⟩)
     · gi_wp2
       go_roundw
       case rel=>exact ⟨j,_,by omega,by (have:=hp;simp <;> omega),by first | rfl | simp [hw2],hJ3,hnx.trans hk3⟩
       case measure=>simp [intOf] <;> omega
     · gi_wp2
       refine bodyPost_ret (results_none rfl _ _ _) rfl ?_
       exact ⟨⟨_,rfl⟩,.inr ⟨_,True.intro,hJx3⟩⟩
set_option maxHeartbeats 1000000 in
theorem back_in (F:Fence) (n:Nat) (h5:F.fn 99) (hro:F.round=none) (a:Option Addr) (len cap:Nat) (w:World) :
   CallsIn F n Tryz.prog 99 #[.slice a len cap] w fun e w'=>e=.returned (.func (.func 134) #[] #[.pointer (some ⟨w.heap.size,0,none⟩)])∧w'=w.alloc (.cells #[.slice a len cap] 127):=by
 refine callsIn_of_wp Tryz.func99 rfl h5 ?_ hro
 simp only [Tryz.ntmps99,List.size_toArray,List.length_cons,List.length_nil,Nat.reduceAdd,Nat.reduceSub,Array.replicate_succ,Array.replicate_zero,List.push_toArray,List.append_toArray,List.nil_append,List.cons_append]
 gi_wp2
 go_ret
 exact ⟨rfl,rfl⟩
theorem back_stops (F:Fence) (n:Nat) (h8:F.fn 134) (hro:F.round=none) (hn:1≤n) (Bs n₀ b cap:Nat) (zs:List Value) (hreach:zs.length≤1000000) (w:World) (hBs:Bs < n₀) (hb:b < n₀) (hn₀:n₀≤w.heap.size)
   (hc:w.cell? ⟨Bs,0,none⟩=some (.slice (some ⟨b,0,none⟩) zs.length cap)) (hI:∀ j (h:j < zs.length),w.cell? ⟨b,j,none⟩=some zs[j]) :
   SeqStopsK F n Tryz.prog 134 #[.pointer (some ⟨Bs,0,none⟩)] (backEnc zs) (Below n₀) (fun _=>True) (fun _=>True) zs.length w:=fun l J Jx W hW _ _ hY h0 =>
 back1_in F n h8 hro hn l Bs n₀ b cap zs hreach hb J Jx hY W (((hW.mono hn₀).cell (p:=⟨Bs,0,none⟩) hBs).trans hc) hBs (fun j h=>((hW.mono hn₀).cell (p:=⟨b,j,none⟩) hb).trans (hI j h)) h0
end
section
open Go.RowKit Go.Proofs
theorem run_assert_other {P:Program} {a t e:TypeId} {v:Value} (hu:P.underlying a=some (.pointer e)) (hz:(P.info? a).map (·.zero)=some (some (.pointer none))) (ht:t≠a) (xT:TypeId) (w:World) :
   (Instr.typeAssert (.iface t v) xT a true).run P w=.ok (.tuple #[.pointer none,.bool false]) w:=by
 obtain ⟨j,hj,hz'⟩:=Option.map_eq_some_iff.1 hz
 simp [Instr.typeAssert,run_underlying hu,ht,zeroValue,hj,hz',typeInfo]
theorem run_assert_same {P:Program} {a e:TypeId} {v:Value} (hu:P.underlying a=some (.pointer e)) (xT:TypeId) (w:World) :
   (Instr.typeAssert (.iface a v) xT a true).run P w=.ok (.tuple #[v,.bool true]) w:=by
 simp [Instr.typeAssert,run_underlying hu]
@[go_sem] theorem as_line_lp (v:Value) (w:World):(Instr.typeAssert (.iface 92 v) 131 239 true).run Tryz.prog w=.ok (.tuple #[.pointer none,.bool false]) w:=run_assert_other (e:=139) (by kernel_rfl) (by kernel_rfl) (by decide) _ _
@[go_sem] theorem as_line_rp (v:Value) (w:World):(Instr.typeAssert (.iface 92 v) 131 240 true).run Tryz.prog w=.ok (.tuple #[.pointer none,.bool false]) w:=run_assert_other (e:=141) (by kernel_rfl) (by kernel_rfl) (by decide) _ _
@[go_sem] theorem as_line_cb (v:Value) (w:World):(Instr.typeAssert (.iface 92 v) 131 197 true).run Tryz.prog w=.ok (.tuple #[.pointer none,.bool false]) w:=run_assert_other (e:=201) (by kernel_rfl) (by kernel_rfl) (by decide) _ _
@[go_sem] theorem as_line_lb (v:Value) (w:World):(Instr.typeAssert (.iface 92 v) 131 137 true).run Tryz.prog w=.ok (.tuple #[.pointer none,.bool false]) w:=run_assert_other (e:=143) (by kernel_rfl) (by kernel_rfl) (by decide) _ _
@[go_sem] theorem as_file_lp (v:Value) (w:World):(Instr.typeAssert (.iface 87 v) 131 239 true).run Tryz.prog w=.ok (.tuple #[.pointer none,.bool false]) w:=run_assert_other (e:=139) (by kernel_rfl) (by kernel_rfl) (by decide) _ _
@[go_sem] theorem as_file_rp (v:Value) (w:World):(Instr.typeAssert (.iface 87 v) 131 240 true).run Tryz.prog w=.ok (.tuple #[.pointer none,.bool false]) w:=run_assert_other (e:=141) (by kernel_rfl) (by kernel_rfl) (by decide) _ _
@[go_sem] theorem as_file_cb (v:Value) (w:World):(Instr.typeAssert (.iface 87 v) 131 197 true).run Tryz.prog w=.ok (.tuple #[.pointer none,.bool false]) w:=run_assert_other (e:=201) (by kernel_rfl) (by kernel_rfl) (by decide) _ _
@[go_sem] theorem as_file_lb (v:Value) (w:World):(Instr.typeAssert (.iface 87 v) 131 137 true).run Tryz.prog w=.ok (.tuple #[.pointer none,.bool false]) w:=run_assert_other (e:=143) (by kernel_rfl) (by kernel_rfl) (by decide) _ _
@[go_sem] theorem as_file_line (v:Value) (w:World):(Instr.typeAssert (.iface 87 v) 131 92 true).run Tryz.prog w=.ok (.tuple #[.pointer none,.bool false]) w:=run_assert_other (e:=136) (by kernel_rfl) (by kernel_rfl) (by decide) _ _
@[go_sem] theorem as_line_file (v:Value) (w:World):(Instr.typeAssert (.iface 92 v) 131 87 true).run Tryz.prog w=.ok (.tuple #[.pointer none,.bool false]) w:=run_assert_other (e:=129) (by kernel_rfl) (by kernel_rfl) (by decide) _ _
@[go_sem] theorem as_line_line (v:Value) (w:World):(Instr.typeAssert (.iface 92 v) 131 92 true).run Tryz.prog w=.ok (.tuple #[v,.bool true]) w:=run_assert_same (e:=136) (by kernel_rfl) _ _
@[go_sem] theorem as_file_file (v:Value) (w:World):(Instr.typeAssert (.iface 87 v) 131 87 true).run Tryz.prog w=.ok (.tuple #[v,.bool true]) w:=run_assert_same (e:=129) (by kernel_rfl) _ _
end
section
open Go.RowKit Go.Proofs
theorem opIn_round {F:Fence} {n:Nat} {P:Program} {o:Oper} {a:Act} {w:World} {K:Act→World→Prop} {Q:Exit→Act→World→Prop} (r:Nat) (hro:F.round=none) (hd:∀ c,o.op≠.defer c) (h:o.wpIn F n P a w K Q) :
   o.wpIn (F.inRound r) n P a w K Q:=by
 unfold Oper.wpIn at h ⊢
 refine ⟨h.1,?_⟩
 have h2:=h.2
 rw [hro,Oper.semAt_none] at h2
 show Oper.uponIn (F.inRound r) n P o a K Q ((Oper.semAt (some r) a.eval o).run P w)
 rw [Oper.semAt_some r a.eval o hd]
 generalize (execOp a.eval o).run P w=res at h2 ⊢
 cases res with
 | ok x w'=>cases x <;> exact h2
 | halt x w'=>cases x <;> exact h2
theorem opsIn_round {F:Fence} {n:Nat} {P:Program} {ops:Array Oper} {Q:Exit→Act→World→Prop} (r:Nat) (hro:F.round=none) (hd:∀ o ∈ ops.toList,∀ c,o.op≠.defer c):∀ (l:List Nat) (a:Act) (w:World),wpOpsIn F n P ops Q l a w→wpOpsIn (F.inRound r) n P ops Q l a w:=by
 intro l
 induction l with
 | nil=>intro a w h;exact h
 | cons i rest ih =>
   intro a w h
   rw [wpOpsIn_cons] at h ⊢
   unfold wpOpIn at h ⊢
   cases hi:ops[i]? with
   | none=>simp only [hi] at h ⊢;exact ih a w h
   | some o =>
     simp only [hi] at h ⊢
     have hm:o ∈ ops.toList:=by
       rw [← Array.getElem?_toList] at hi
       exact List.mem_of_getElem? hi
     split
     · rename_i hw
       simp only [hw,if_true] at h
       exact Oper.wpIn_mono (fun a w=>ih a w) (opIn_round r hro (hd o hm) h)
     · rename_i hw
       simp only [hw] at h
       exact ⟨h.1,ih _ _ h.2⟩
theorem quiet_round {F:Fence} {n:Nat} {P:Program} {id:Nat} {Q:Exit→Act→World→Prop} {a:Act} {w:World} {l:List Oper} (r:Nat) (hro:F.round=none) (hm:P.follows .mixedOrders=true) (hB:Region.lexB .any l.toArray=true) (hd:∀ o ∈ l,∀ c,o.op≠.defer c)
   (h:wpQuietIn F n P l.toArray (fun w'=>∃ n,w'=w.drewN n) (fun a'=>∀ w',(∃ n,w'=w.drewN n)→Q .normal a' w') l a):(Code.region id l.toArray true).wpIn (F.inRound r) n P Q a w:=by
 refine wpIn_region_draw fun t=>?_
 simp only [Region.schedule,hm,Bool.true_or,if_true]
 refine opsIn_round r hro (by simpa using hd) _ _ _ ?_
 refine wpAnyIn_sound _ t _ a _ ?_
 simp only [Region.lexB,Bool.and_eq_true] at hB
 have:=wpAnyQIn_lex (F:=F) (n:=n) (C:=fun w'=>∃ n,w'=w.drewN n) (md:=.any) hB.1 l 0 (Array.replicate l.toArray.size false) a (by simp) (by simpa using hB.2) h
 refine wpAnyIn_of_quiet (C:=fun w'=>∃ n,w'=w.drewN n) (Q:=fun a'=>∀ w',(∃ n,w'=w.drewN n)→Q .normal a' w') hro (fun _ w' hw' h=>h w' hw') _ _ _ _ ⟨1,rfl⟩ ?_
 simpa using this
end
end Go.Proofs.YtifkpibjeamfkaaGreatFmt
