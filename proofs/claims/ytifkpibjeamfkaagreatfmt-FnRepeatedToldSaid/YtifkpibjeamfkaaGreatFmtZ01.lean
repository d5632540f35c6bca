/-
  Words used by all texts of this claim: the frame relation 'Kp', blocks known whole, positions.
-/
import Derived.Test.YtifkpibjeamfkaaGreatFmtProg
import Derived.WalkKit
import Derived.Handy
import Derived.Outline
import Derived.Laws.AppendOwn
import Derived.Deep.Draws
import Derived.Deep.QuietTactic
import Derived.BigQuiet
import Derived.Deep.RegionHeld3
import Derived.Deep.LoopGhost
import Derived.Deep.DeepCutAuto
import Derived.Deep.RegionLaw
import Derived.Deep.RegionWith
import Derived.WalkSpells
set_option linter.unusedVariables false
set_option linter.unusedSimpArgs false
set_option maxRecDepth 100000
namespace Go.Proofs.YtifkpibjeamfkaaGreatFmt
section
open Go.RowKit Go.Proofs
theorem hide {p:Prop} (h:p):Hid p:=h
structure Kp (X:Nat→Prop) (w w':World):Prop where
 os:w'.os=w.os
 tape:w'.tape=w.tape
 output:w'.output=w.output
 size:w.heap.size≤w'.heap.size
 block:∀ k,k < w.heap.size→¬ X k→w'.heap[k]?=w.heap[k]?
theorem Kp.refl (X:Nat→Prop) (w:World):Kp X w w:=⟨rfl,rfl,rfl,Nat.le_refl _,fun _ _ _=>rfl⟩
theorem Kp.mono {X Y:Nat→Prop} {w w':World} (h:Kp X w w') (hx:∀ k,X k→Y k):Kp Y w w' :=
 ⟨h.os,h.tape,h.output,h.size,fun k hk hn=>h.block k hk (fun hX=>hn (hx k hX))⟩
theorem Kp.trans {X:Nat→Prop} {a b c:World} (h:Kp X a b) (k:Kp X b c):Kp X a c :=
 ⟨k.os.trans h.os,k.tape.trans h.tape,k.output.trans h.output,Nat.le_trans h.size k.size,
  fun i hi hn=>(k.block i (Nat.lt_of_lt_of_le hi h.size) hn).trans (h.block i hi hn)⟩
theorem Kp.trans' {X Y:Nat→Prop} {a b c:World} (h:Kp X a b) (k:Kp Y b c) (hy:∀ i,i < a.heap.size→Y i→X i):Kp X a c :=
 ⟨k.os.trans h.os,k.tape.trans h.tape,k.output.trans h.output,Nat.le_trans h.size k.size,
  fun i hi hn=>(k.block i (Nat.lt_of_lt_of_le hi h.size) (fun hY=>hn (hy i hi hY))).trans (h.block i hi hn)⟩
theorem Kp.drew {X:Nat→Prop} {a w:World} (h:Kp X a w):Kp X a w.drew:=⟨h.os,h.tape,h.output,h.size,h.block⟩
theorem Kp.drewN {X:Nat→Prop} {a w:World} (h:Kp X a w) (n:Nat):Kp X a (w.drewN n):=⟨h.os,h.tape,h.output,h.size,h.block⟩
theorem Kp.alloc {X:Nat→Prop} {a w:World} (h:Kp X a w) (o:Obj):Kp X a (w.alloc o) :=
 ⟨h.os,h.tape,h.output,by simp;have:=h.size;omega,fun k hk hn=>(Below.heap_alloc _ _ _ (Nat.lt_of_lt_of_le hk h.size)).trans (h.block k hk hn)⟩
theorem Kp.setCell {X:Nat→Prop} {a w:World} (h:Kp X a w) {p:Addr} (hp:p.block < a.heap.size→X p.block) (u:Value):Kp X a (w.setCell p u) :=
 ⟨h.os,h.tape,h.output,by simp [World.setCell];exact h.size,fun k hk hn=>(Below.heap_setCell _ _ _ _ (fun e=>by subst e;exact hn (hp hk))).trans (h.block k hk hn)⟩
theorem Kp.set {X:Nat→Prop} {a w:World} {b o:Nat} {u:Value} (h:Kp X a w) (hp:b < a.heap.size→X b):Kp X a (w.setCell ⟨b,o,none⟩ u):=h.setCell hp u
theorem Kp.of_grownBy {w w':World} {row:Option Nat} (h:w.grownBy w' row):Kp (fun k=>some k=row) w w' :=
 ⟨h.os,h.tape,h.output,h.size,fun k hk hn=>h.block k hk hn⟩
theorem Kp.grown {X:Nat→Prop} {a w w':World} {row:Option Nat} (h:Kp X a w) (hg:w.grownBy w' row) (hr:∀ k,row=some k→k < a.heap.size→X k):Kp X a w' :=
 h.trans' (Kp.of_grownBy hg) (fun i hi e=>hr i e.symm hi)
theorem Kp.of_below {X:Nat→Prop} {w w':World} (h:Below w.heap.size w w'):Kp X w w' :=
 ⟨h.os,h.tape,h.output,h.size,fun k hk _=>h.block k hk⟩
theorem Kp.below {X:Nat→Prop} {B:Nat} {w w':World} (h:Kp X w w') (hB:B≤w.heap.size) (hx:∀ k,X k→B≤k):Below B w w' :=
 ⟨h.os,h.tape,h.output,h.size,fun k hk=>h.block k (by omega) (fun hX=>by have:=hx k hX;omega)⟩
structure Blk (w:World) (b:Nat) (t:TypeId) (cs:Array Value):Prop where
 out:w.heap[b]?=some (.cells cs t (0,0))
theorem Blk.cell {w:World} {b:Nat} {t:TypeId} {cs:Array Value} (h:Blk w b t cs) (j:Nat) {v:Value} (hv:cs[j]?=some v):w.cell? ⟨b,j,none⟩=some v:=by
 have h:=h.out
 simp [World.cell?,h,hv]
theorem Blk.free {w:World} {b:Nat} {t:TypeId} {cs:Array Value} (h:Blk w b t cs) (j:Nat):w.frozen? ⟨b,j,none⟩=false:=by
 have h:=h.out
 simp [World.frozen?,h]
theorem Blk.lt {w:World} {b:Nat} {t:TypeId} {cs:Array Value} (h:Blk w b t cs):b < w.heap.size:=by
 have h:=h.out
 exact (Array.getElem?_eq_some_iff.1 h).1
theorem Blk.kept {w w':World} {b:Nat} {t:TypeId} {cs:Array Value} {X:Nat→Prop} (h:Blk w b t cs) (k:Kp X w w') (hn:¬ X b):Blk w' b t cs :=
 ⟨(k.block b h.lt hn).trans h.out⟩
theorem Blk.set {w:World} {b:Nat} {t:TypeId} {cs:Array Value} (h:Blk w b t cs) (j:Nat) (v:Value):Blk (w.setCell ⟨b,j,none⟩ v) b t (cs.setIfInBounds j v):=by
 have h:=h.out
 refine ⟨?_⟩
 simp only [World.setCell,Array.getElem?_modify,h]
 simp
theorem Blk.eq {w:World} {b:Nat} {t:TypeId} {cs ds:Array Value} (h:Blk w b t cs) (e:cs=ds):Blk w b t ds:=e ▸ h
theorem Blk.set_other {w:World} {b:Nat} {t:TypeId} {cs:Array Value} (h:Blk w b t cs) {a:Addr} (ha:b≠a.block) (v:Value):Blk (w.setCell a v) b t cs:=by
 have h:=h.out
 refine ⟨?_⟩
 rw [Below.heap_setCell _ _ _ _ ha];exact h
theorem Blk.drew {w:World} {b:Nat} {t:TypeId} {cs:Array Value} (h:Blk w b t cs):Blk w.drew b t cs:=⟨h.out⟩
theorem Blk.drewN {w:World} {b:Nat} {t:TypeId} {cs:Array Value} (h:Blk w b t cs) (n:Nat):Blk (w.drewN n) b t cs:=⟨h.out⟩
theorem Blk.alloc {w:World} {b:Nat} {t:TypeId} {cs:Array Value} (h:Blk w b t cs) (o:Obj):Blk (w.alloc o) b t cs:=by
 refine ⟨?_⟩
 rw [Below.heap_alloc _ _ _ (Blk.lt h)];exact h.out
theorem Blk.new (w:World) (t:TypeId) (cs:Array Value):Blk (w.alloc (.cells cs t)) w.heap.size t cs:=by
 refine ⟨?_⟩
 show (w.heap.push _)[w.heap.size]?=_
 simp
theorem Blk.ne {w:World} {b c:Nat} {t u:TypeId} {cs ds:Array Value} (h:Blk w b t cs) (k:Blk w c u ds) (ht:t≠u):b≠c:=by
 intro e
 subst e
 have h:=h.out
 have k:=k.out
 rw [h] at k
 injection k with k
 injection k with _ k
 exact ht k
end
end Go.Proofs.YtifkpibjeamfkaaGreatFmt
