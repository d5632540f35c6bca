/-
  What parseStmt leaves: lines and blocks in memory.
-/
import Derived.Test.YtifkpibjeamfkaaGreatFmtZ19
set_option linter.unusedVariables false
set_option linter.unusedSimpArgs false
set_option maxRecDepth 100000
namespace Go.Proofs.YtifkpibjeamfkaaGreatFmt
section
open Go.RowKit Go.Proofs
theorem FileAt.keptU {N M:Nat} {S:Nat→TypeId→Prop} {w w':World} {F:Nat} {nm:ByteArray} {xs:List Value} (h:FileAt N w F nm xs) (k:Ku M S w w') (h1:¬ S F 129) (h2:∀ g,¬ S g 131):FileAt N w' F nm xs:=by
 obtain ⟨v,hb,ho⟩:=h
 exact ⟨v,hb.keptU k h1,ownsRow_keptU ho k (fun g _=>h2 g)⟩
theorem lb0 (a1 a2 a3 p1 p2 p3:Int) (tv lv rb:Value) (q1 q2 q3:Int):lbCells a1 a2 a3 p1 p2 p3 tv lv rb q1 q2 q3=(lbCells a1 a2 a3 p1 p2 p3 tv lv rb q1 q2 q3).setIfInBounds 0 nilS:=by simp [lbCells]
def lbV (X:Nat):Value:=.iface 137 (.pointer (some ⟨X,0,none⟩))
def BkAt (N:Nat) (w:World) (T:List UInt8) (P:Nat→Prop) (X:Nat) (Ls:List Nat) (bv:Value) (t:Tk) (ts:List Tk) (ls:List (Tk × List Tk)):Prop :=
 ∃ a1 a2 a3 p1 p2 p3 tv lv rb cms q1 q2 q3,Blk w X 143 ((lbCells a1 a2 a3 p1 p2 p3 tv lv rb q1 q2 q3).setIfInBounds 0 bv)∧w.ownsRow N 9 1 tv (ts.length+1) (tvals T (t :: ts))∧w.ownsRow N 92 1 lv Ls.length (Ls.map pv) ∧
   LnsAt N w T P Ls ls∧CmAt N w rb cms∧(∀ g,rb.ownBlock=some g→P g)∧Ls.Pairwise (· < ·)
theorem BkAt.keptU {N M:Nat} {S:Nat→TypeId→Prop} {w w':World} {T:List UInt8} {P Q:Nat→Prop} {X:Nat} {Ls:List Nat} {bv:Value} {t:Tk} {ts:List Tk} {ls:List (Tk × List Tk)} (h:BkAt N w T P X Ls bv t ts ls) (k:Ku M S w w') (h1:¬ S X 143) (h2:∀ g,¬ S g 9) (h3:∀ g,¬ S g 92) (h4:∀ g,¬ S g 136) (h5:∀ g,P g→¬ S g 194) (hq:∀ g,P g→Q g):BkAt N w' T Q X Ls bv t ts ls:=by
 obtain ⟨a1,a2,a3,p1,p2,p3,tv,lv,rb,cms,q1,q2,q3,b1,b2,b3,b4,b5,b6,b7⟩:=h
 exact ⟨a1,a2,a3,p1,p2,p3,tv,lv,rb,cms,q1,q2,q3,b1.keptU k h1,ownsRow_keptU b2 k (fun g _=>h2 g),ownsRow_keptU b3 k (fun g _=>h3 g),b4.keptU k h4 h2 h5 hq,b5.keptU k (fun g e=>h5 g (b6 g e)),fun g e=>hq g (b6 g e),b7⟩
def StmtP (P:Nat→Prop):Nat→TypeId→Prop:=fun k u=>LexP P k u∨u=129∨u=131
def PsLine (N:Nat) (σ:Lx) (w:World) (P:Nat→Prop) (t:Tk) (ts:List Tk) (tn:Tk) (F:Nat) (nm:ByteArray) (xs:List Value) (en:Ending) (w':World):Prop :=
 ∃ L,en=.returned (.tuple #[])∧w.heap.size≤L∧PsAt N w' σ tn P∧Ku N (StmtP P) w w'∧LnAt N w' σ.T L nilS false t ts∧FileAt N w' F nm (xs++[lineV L])
def PsBlock (N:Nat) (σ:Lx) (w:World) (P:Nat→Prop) (t:Tk) (ts:List Tk) (ls:List (Tk × List Tk)) (r:Option (List Tk)) (F:Nat) (nm:ByteArray) (xs:List Value) (en:Ending) (w':World):Prop :=
 ∃ X Ls Q tn rest,r=some (tn :: rest)∧en=.returned (.tuple #[])∧w.heap.size≤X∧PsAt N w' σ tn Q∧(∀ k,P k→Q k)∧(∀ k,Q k→k < w'.heap.size)∧Ku N (StmtP P) w w'∧BkAt N w' σ.T Q X Ls nilS t ts ls∧(∀ L ∈ Ls,w.heap.size≤L)∧FileAt N w' F nm (xs++[lbV X])
inductive StEnd (T:List UInt8) (f:Nat→Int):List Tk→Option (List (Tk × List Tk) × Option (List Tk))→Prop
 | line (nl tn:Tk) (h:EolK nl):StEnd T f [nl,tn] none
 | block (lp e:Tk) (cs:List Tk) (ls:List (Tk × List Tk)) (r:Option (List Tk)) (h:lp.k=40) (he:EolK e) (hb:Body (e :: cs) ls r):StEnd T f (lp :: e :: cs) (some (ls,r))
def PsPost (N:Nat) (σ:Lx) (w:World) (P:Nat→Prop) (t:Tk) (ts tl:List Tk) (o:Option (List (Tk × List Tk) × Option (List Tk))) (F:Nat) (nm:ByteArray) (xs:List Value) (en:Ending) (w':World):Prop :=
 match o with
 | none=>∃ nl tn,tl=[nl,tn]∧PsLine N σ w P t ts tn F nm xs en w'
 | some (ls,r)=>PsBlock N σ w P t ts ls r F nm xs en w'∨(r=none∧Panics N σ w (StmtP P) en w')
end
end Go.Proofs.YtifkpibjeamfkaaGreatFmt
