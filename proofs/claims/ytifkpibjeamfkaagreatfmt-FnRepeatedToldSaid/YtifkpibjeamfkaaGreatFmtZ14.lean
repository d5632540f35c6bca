/-
  A document as lines of words: its text, its tokens; parse at a document.
  What PathOk and WordOk tell, in the lexer's and the rules' words.
  semver.parseInt, parse, Canonical, Build, Major at a version of three numbers.
  parseVersion at a canonical version; fmt.Errorf at CheckPathMajor's format; CheckPathMajor at a path without a major number.
-/
import Derived.Test.YtifkpibjeamfkaaGreatFmtZ13
import Derived.Test.YtifkpibjeamfkaaGreatFmtZ10
import Derived.Test.YtifkpibjeamfkaaGreatFmtZ11
import Derived.Deep.DeepFit
import Derived.Stop.CallBack
import Derived.Stop.IfaceNil
import Derived.Stop.FmtTextLaws
import GoSem.ClaimData
set_option linter.unusedVariables false
set_option linter.unusedSimpArgs false
set_option maxRecDepth 100000
namespace Go.Proofs.YtifkpibjeamfkaaGreatFmt
section
open Go.RowKit Go.Proofs
theorem ch_left (A B:List UInt8) (i:Nat) (h:i < A.length):ch (A++B) i=ch A i:=by
 simp [ch,List.getD_eq_getElem?_getD,List.getElem?_append_left h]
theorem ch_right (A B:List UInt8) (i:Nat):ch (A++B) (A.length+i)=ch B i:=by
 simp [ch,List.getD_eq_getElem?_getD,List.getElem?_append_right]
theorem ch_mid (A u B:List UInt8) (i:Nat) (h:i < u.length):ch (A++(u++B)) (A.length+i)=ch u i:=by
 rw [ch_right,ch_left _ _ _ h]
theorem ch_next (A u B:List UInt8):ch (A++(u++B)) (A.length+u.length)=ch B 0:=by
 rw [ch_right];exact ch_right u B 0
theorem seg_mid (A u B:List UInt8):seg (A++(u++B)) A.length (A.length+u.length)=u:=by
 unfold seg
 rw [show A.length+u.length - A.length=u.length from by omega]
 simp
structure IdW (u:List UInt8):Prop where
 pos:0 < u.length
 chars:∀ i,i < u.length→idB (ch u i)=true∧noCom u i
 q1:ch u 0≠34
 q2:ch u 0≠96
structure StrW (u:List UInt8):Prop where
 q:ch u 0=34
 body:StrB u 1 u.length
def Wd (u:List UInt8):Prop:=IdW u∨StrW u
theorem Wd.pos {u:List UInt8} (h:Wd u):0 < u.length:=by
 rcases h with h | h
 · exact h.pos
 · have:=h.body.lt;omega
def kindOf (u:List UInt8):Int:=if ch u 0=34 then -4 else -3
def Sep (B:List UInt8):Prop:=0 < B.length∧(ch B 0=32∨ch B 0=10)
theorem StrB.shift {u:List UInt8} (A B:List UInt8) {i e:Nat} (h:StrB u i e):StrB (A++(u++B)) (A.length+i) (A.length+e):=by
 induction h with
 | fin i h hc=>exact .fin _ (by simp;omega) (by rw [ch_mid _ _ _ _ h];exact hc)
 | esc i e h hc r ih=>exact .esc _ _ (by simp;omega) (by rw [ch_mid _ _ _ _ (by omega)];exact hc) ih
 | chr i e h h1 h2 h3 r ih=>exact .chr _ _ (by simp;omega) (by rw [ch_mid _ _ _ _ h];exact h1) (by rw [ch_mid _ _ _ _ h];exact h2) (by rw [ch_mid _ _ _ _ h];exact h3) ih
theorem noCom_mid {A u B:List UInt8} (hB:Sep B) {i:Nat} (hi:i < u.length) (h:noCom u i):noCom (A++(u++B)) (A.length+i):=by
 unfold noCom at h ⊢
 rw [ch_mid _ _ _ _ hi]
 rcases Nat.lt_or_ge (i+1) u.length with h1 | h1
 · rw [show A.length+i+1=A.length+(i+1) from by omega,ch_mid _ _ _ _ h1]
   exact ⟨fun ⟨_,b,c⟩=>h.1 ⟨h1,b,c⟩,fun ⟨_,b,c⟩=>h.2 ⟨h1,b,c⟩⟩
 · rw [show A.length+i+1=A.length+u.length from by omega,ch_next]
   rcases hB.2 with h2 | h2 <;> rw [h2] <;> exact ⟨fun ⟨_,_,c⟩=>absurd c (by omega),fun ⟨_,_,c⟩=>absurd c (by omega)⟩
theorem tok_word (A u B:List UInt8) (p:Nat) (hu:Wd u) (hB:Sep B) (hp:p≤A.length) (hw:Ws (A++(u++B)) p A.length):TokAt (A++(u++B)) p ⟨kindOf u,A.length,A.length+u.length⟩:=by
 have hpos:=hu.pos
 rcases hu with hu | hu
 · rw [show kindOf u=-3 from if_neg hu.q1]
   refine .id _ _ hp (by omega) (by simp only [List.length_append];omega) hw (fun i h1 h2=>?_) ?_ ?_ (Or.inr (Or.inl ⟨?_,?_⟩))
   · obtain ⟨j,rfl⟩:∃ j,i=A.length+j:=⟨i - A.length,by omega⟩
     have hj:j < u.length:=by omega
     have hc:=hu.chars j hj
     exact ⟨by rw [ch_mid _ _ _ _ hj];exact hc.1,noCom_mid hB hj hc.2⟩
   · have:=ch_mid A u B 0 hpos;rw [Nat.add_zero] at this;rw [this];exact hu.q1
   · have:=ch_mid A u B 0 hpos;rw [Nat.add_zero] at this;rw [this];exact hu.q2
   · have:=hB.1;simp;omega
   · rw [ch_next]
     rcases hB.2 with h2 | h2 <;> rw [h2] <;> rfl
 · rw [show kindOf u=-4 from if_pos hu.q]
   refine .str _ _ hp (by simp;omega) hw ?_ (hu.body.shift A B)
   have:=ch_mid A u B 0 hpos;rw [Nat.add_zero] at this;rw [this];exact hu.q
theorem tok_nl (A B:List UInt8) (p:Nat) (hp:p≤A.length) (hw:Ws (A++(10 :: B)) p A.length):TokAt (A++(10 :: B)) p ⟨10,A.length,A.length+1⟩:=by
 refine .nl _ hp (by simp) hw ?_
 have:=ch_right A (10 :: B) 0
 rw [Nat.add_zero] at this
 rw [this];rfl
theorem Ws.refl (T:List UInt8) (p:Nat):Ws T p p:=fun i h1 h2=>absurd h1 (by omega)
theorem Ws.one (T:List UInt8) (p:Nat) (h:ch T p=32):Ws T p (p+1):=by
 intro i h1 h2
 obtain rfl:i=p:=by omega
 exact Or.inl h
def Toks (T:List UInt8) (p:Nat):List Tk→Prop
 | []=>True
 | t :: ts=>TokAt T p t∧Chain T t ts
theorem Toks.chain {T:List UInt8} {t:Tk} {ts:List Tk} (h:Toks T t.e ts):Chain T t ts:=by
 cases ts with
 | nil=>trivial
 | cons u us=>exact h
def lineTxt:List (List UInt8)→List UInt8
 | []=>[10]
 | [u]=>u++[10]
 | u :: v :: r=>u++32 :: lineTxt (v :: r)
def docTxt:List (List (List UInt8))→List UInt8
 | []=>[]
 | l :: d=>lineTxt l++docTxt d
def wordTks (o:Nat):List (List UInt8)→List Tk
 | []=>[]
 | u :: us=>⟨kindOf u,o,o+u.length⟩ :: wordTks (o+u.length+1) us
def nlAt (o:Nat) (l:List (List UInt8)):Tk:=⟨10,o+(lineTxt l).length - 1,o+(lineTxt l).length⟩
def itOf (o:Nat) (l:List (List UInt8)):It:=match wordTks o l with
 | []=>.blank (nlAt o l)
 | t :: ts=>.line t ts (nlAt o l)
def docIts (o:Nat):List (List (List UInt8))→List It
 | []=>[]
 | l :: d=>itOf o l :: docIts (o+(lineTxt l).length) d
theorem lineTxt_pos (l:List (List UInt8)):0 < (lineTxt l).length:=by
 match l with
 | []=>simp [lineTxt]
 | [u]=>simp [lineTxt]
 | u :: v :: r=>simp [lineTxt];omega
theorem itOf_toks (o:Nat) (l:List (List UInt8)):(itOf o l).toks=wordTks o l++[nlAt o l]:=by
 unfold itOf
 cases wordTks o l <;> rfl
theorem line_toks (l:List (List UInt8)):∀ (A R:List UInt8) (p:Nat) (rest:List Tk),(∀ u ∈ l,Wd u)→p≤A.length→Ws (A++(lineTxt l++R)) p A.length→Toks (A++(lineTxt l++R)) (A.length+(lineTxt l).length) rest →
   Toks (A++(lineTxt l++R)) p (wordTks A.length l++nlAt A.length l :: rest):=by
 induction l with
 | nil =>
   intro A R p rest _ hp hw hr
   have h1:=tok_nl A R p hp hw
   exact ⟨h1,Toks.chain (t:=nlAt A.length []) hr⟩
 | cons u us ih =>
   intro A R p rest hu hp hw hr
   cases us with
   | nil =>
     have e:lineTxt [u]++R=u++(10 :: R):=by simp [lineTxt]
     rw [e] at hw hr ⊢
     have h1:=tok_word A u (10 :: R) p (hu u (by simp)) ⟨by simp,Or.inr rfl⟩ hp hw
     have h2:=tok_nl (A++u) R (A.length+u.length) (by simp) (by rw [List.length_append];exact Ws.refl _ _)
     rw [List.append_assoc,List.length_append] at h2
     have e2:nlAt A.length [u]=⟨10,A.length+u.length,A.length+u.length+1⟩:=by simp [nlAt,lineTxt];omega
     have e3:A.length+(lineTxt [u]).length=A.length+u.length+1:=by simp [lineTxt];omega
     rw [e3] at hr
     refine ⟨h1,?_⟩
     show Chain _ _ (nlAt A.length [u] :: rest)
     rw [e2]
     exact ⟨h2,Toks.chain (t:=⟨10,A.length+u.length,A.length+u.length+1⟩) hr⟩
   | cons v r =>
     have e:lineTxt (u :: v :: r)++R=u++(32 :: (lineTxt (v :: r)++R)):=by simp [lineTxt]
     rw [e] at hw hr ⊢
     have h1:=tok_word A u (32 :: (lineTxt (v :: r)++R)) p (hu u (by simp)) ⟨by simp,Or.inl rfl⟩ hp hw
     have e4:A++(u++(32 :: (lineTxt (v :: r)++R)))=(A++u++[32])++(lineTxt (v :: r)++R):=by simp
     have e5:(A++u++[32]).length=A.length+u.length+1:=by simp;omega
     have e6:A.length+(lineTxt (u :: v :: r)).length=A.length+u.length+1+(lineTxt (v :: r)).length:=by simp [lineTxt];omega
     have e7:nlAt A.length (u :: v :: r)=nlAt (A.length+u.length+1) (v :: r):=by
       have:=lineTxt_pos (v :: r)
       simp [nlAt,lineTxt];omega
     have hsp:ch (A++(u++(32 :: (lineTxt (v :: r)++R)))) (A.length+u.length)=32:=by rw [ch_next];rfl
     have hws:=Ws.one _ _ hsp
     rw [e6] at hr
     rw [e4] at hr hws
     have:=ih (A++u++[32]) R (A.length+u.length) rest (fun x hx=>hu x (by simp at hx ⊢;exact Or.inr hx)) (by rw [e5];omega) (by rw [e5];exact hws) (by rw [e5];exact hr)
     rw [e5,← e4] at this
     refine ⟨h1,?_⟩
     show Chain _ _ (wordTks (A.length+u.length+1) (v :: r)++nlAt A.length (u :: v :: r) :: rest)
     rw [e7]
     exact Toks.chain (t:=⟨kindOf u,A.length,A.length+u.length⟩) this
theorem doc_toks (d:List (List (List UInt8))):∀ (A:List UInt8),(∀ l ∈ d,∀ u ∈ l,Wd u) →
   Toks (A++docTxt d) A.length (itoks (docIts A.length d)++[⟨-1,(A++docTxt d).length,(A++docTxt d).length⟩]):=by
 induction d with
 | nil =>
   intro A _
   refine ⟨?_,trivial⟩
   have:=TokAt.eof (T:=A++docTxt []) (p:=A.length) (by simp) (by simp [docTxt];exact Ws.refl _ _)
   exact this
 | cons l d ih =>
   intro A hw
   have h1:=ih (A++lineTxt l) (fun x hx=>hw x (by simp [hx]))
   rw [List.append_assoc,List.length_append] at h1
   have h2:=line_toks l A (docTxt d) A.length _ (hw l (by simp)) (Nat.le_refl _) (Ws.refl _ _) h1
   show Toks (A++(lineTxt l++docTxt d)) A.length ((itOf A.length l).toks++itoks (docIts (A.length+(lineTxt l).length) d)++_)
   rw [itOf_toks]
   simpa [docTxt] using h2
def LineW (N:Nat) (w:World) (L:Nat) (l:List (List UInt8)):Prop :=
 ∃ tv a1 a2 a3 b1 b2 b3,Blk w L 136 #[nilS,nilS,nilS,.int .i64 a1,.int .i64 a2,.int .i64 a3,tv,.bool false,.int .i64 b1,.int .i64 b2,.int .i64 b3] ∧
   w.ownsRow N 9 1 tv l.length (l.map fun u=>.string (mkS u))
theorem words_txt (l:List (List UInt8)):∀ (A R:List UInt8),(wordTks A.length l).map (fun t=>txtOf (A++(lineTxt l++R)) t)=l.map mkS:=by
 induction l with
 | nil=>intro A R;rfl
 | cons u us ih =>
   intro A R
   cases us with
   | nil =>
     have e:lineTxt [u]++R=u++(10 :: R):=by simp [lineTxt]
     rw [e]
     simp [wordTks,txtOf,seg_mid]
   | cons v r =>
     have e:lineTxt (u :: v :: r)++R=u++(32 :: (lineTxt (v :: r)++R)):=by simp [lineTxt]
     have e4:A++(u++(32 :: (lineTxt (v :: r)++R)))=(A++u++[32])++(lineTxt (v :: r)++R):=by simp
     have e5:(A++u++[32]).length=A.length+u.length+1:=by simp;omega
     have h1:=ih (A++u++[32]) R
     rw [e5,← e4] at h1
     rw [e]
     show txtOf _ ⟨kindOf u,A.length,A.length+u.length⟩ :: (wordTks (A.length+u.length+1) (v :: r)).map _=_
     rw [h1]
     simp [txtOf,seg_mid]
theorem wordTks_len (l:List (List UInt8)):∀ o,(wordTks o l).length=l.length:=by
 induction l with
 | nil=>intro o;rfl
 | cons u us ih=>intro o;simp [wordTks,ih]
theorem LineAt.words {N:Nat} {w:World} {A R:List UInt8} {L:Nat} {t:Tk} {ts:List Tk} {l:List (List UInt8)} (h:LineAt N w (A++(lineTxt l++R)) L t ts) (hl:wordTks A.length l=t :: ts):LineW N w L l:=by
 obtain ⟨tv,hb,ho⟩:=h
 refine ⟨tv,_,_,_,_,_,_,hb,?_⟩
 have e:=words_txt l A R
 have e2:=wordTks_len l A.length
 rw [hl] at e e2
 have e3:(t :: ts).map (fun u=>Value.string (txtOf (A++(lineTxt l++R)) u))=l.map (fun u=>.string (mkS u)):=by
   have:=congrArg (List.map Value.string) e
   simpa [Function.comp_def] using this
 rw [e3] at ho
 rw [show l.length=ts.length+1 from by rw [← e2];rfl]
 exact ho
def lsOf (d:List (List (List UInt8))):List (List (List UInt8)):=d.filter (fun l=>!l.isEmpty)
inductive LinesW (N:Nat) (w:World):List Nat→List (List (List UInt8))→Prop
 | nil:LinesW N w [] []
 | cons {L:Nat} {Ls:List Nat} {l:List (List UInt8)} {ls:List (List (List UInt8))} (h:LineW N w L l) (k:LinesW N w Ls ls):LinesW N w (L :: Ls) (l :: ls)
theorem LinesAt.words {N:Nat} {w:World} (d:List (List (List UInt8))):∀ (A:List UInt8) (Ls:List Nat),LinesAt N w (A++docTxt d) Ls (ilines (docIts A.length d))→LinesW N w Ls (lsOf d):=by
 induction d with
 | nil =>
   intro A Ls h
   cases h
   exact .nil
 | cons l d ih =>
   intro A Ls h
   have hsh:A++docTxt (l :: d)=(A++lineTxt l)++docTxt d:=by simp [docTxt]
   have hih:=ih (A++lineTxt l)
   rw [List.length_append] at hih
   change LinesAt N w (A++(lineTxt l++docTxt d)) Ls ((itOf A.length l).lines++ilines (docIts (A.length+(lineTxt l).length) d)) at h
   cases l with
   | nil =>
     have h':LinesAt N w (A++lineTxt []++docTxt d) Ls (ilines (docIts (A.length+(lineTxt []).length) d)):=by rw [List.append_assoc];exact h
     exact hih Ls h'
   | cons u us =>
     have hit:itOf A.length (u :: us)=.line ⟨kindOf u,A.length,A.length+u.length⟩ (wordTks (A.length+u.length+1) us) (nlAt A.length (u :: us)):=rfl
     rw [hit] at h
     generalize hL:ilines (docIts (A.length+(lineTxt (u :: us)).length) d)=L2 at h hih
     cases h with
     | cons h k =>
       rw [← List.append_assoc] at k
       exact .cons (LineAt.words h rfl) (hih _ k)
theorem docIts_ok (d:List (List (List UInt8))):∀ o,(∀ l ∈ d,l.length≤1000000)→∀ i ∈ docIts o d,i.ok:=by
 induction d with
 | nil=>intro o _ i hi;cases hi
 | cons l d ih =>
   intro o hl i hi
   rcases List.mem_cons.1 hi with rfl | hi
   · cases l with
     | nil=>rfl
     | cons u us =>
       have hk:∀ (l:List (List UInt8)) o,∀ t ∈ wordTks o l,Word t:=by
         intro l
         induction l with
         | nil=>intro o t ht;cases ht
         | cons x xs ihx =>
           intro o t ht
           rcases List.mem_cons.1 ht with rfl | ht
           · show kindOf x=-3∨kindOf x=-4
             unfold kindOf
             split
             · exact Or.inr rfl
             · exact Or.inl rfl
           · exact ihx _ t ht
       have hlen:=hl (u :: us) (by simp)
       refine ⟨hk (u :: us) o _ (List.mem_cons_self),fun t ht=>hk (u :: us) o t (List.mem_cons_of_mem _ ht),rfl,?_⟩
       rw [wordTks_len]
       simp at hlen
       omega
   · exact ih _ (fun x hx=>hl x (by simp [hx])) i hi
theorem docIts_len (d:List (List (List UInt8))):∀ o,(docIts o d).length=d.length:=by
 induction d with
 | nil=>intro o;rfl
 | cons l d ih=>intro o;simp [docIts,ih]
theorem ilines_doc (d:List (List (List UInt8))):∀ o,(ilines (docIts o d)).length=(lsOf d).length:=by
 induction d with
 | nil=>intro o;rfl
 | cons l d ih =>
   intro o
   show ((itOf o l).lines++ilines (docIts _ d)).length=_
   rw [List.length_append,ih]
   cases l with
   | nil=>simp [itOf,wordTks,It.lines,lsOf]
   | cons u us=>simp [itOf,wordTks,It.lines,lsOf];omega
theorem parse_doc (w:World) (D C:Nat) (nm:ByteArray) (d:List (List (List UInt8))) (h:TxtAt w D C (docTxt d)) (hw:∀ l ∈ d,∀ u ∈ l,Wd u) (hl:∀ l ∈ d,l.length≤1000000) (h0:0 < (lsOf d).length) (hlen:d.length≤999999)
   (hpr:PrTab w) (hP:0 < w.heap.size) :
   Calls Tryz.prog 49 #[.string nm,.slice (some ⟨D,0,none⟩) (docTxt d).length C] w fun e w'=>∃ F Ls,e=.returned (.tuple #[.pointer (some ⟨F,0,none⟩),.nilIface])∧Below w.heap.size w w' ∧
     FileAt w.heap.size w' F nm (Ls.map lineV)∧LinesW w.heap.size w' Ls (lsOf d):=by
 have ht:=doc_toks d [] hw
 obtain ⟨c,cs,hc⟩:=itoks_cons (docIts 0 d) ⟨-1,([]++docTxt d).length,([]++docTxt d).length⟩
 change Toks (docTxt d) 0 (itoks (docIts 0 d)++[⟨-1,(docTxt d).length,(docTxt d).length⟩]) at ht
 change itoks (docIts 0 d)++[⟨-1,(docTxt d).length,(docTxt d).length⟩]=c :: cs at hc
 rw [hc] at ht
 refine (parse_lines w D C (docTxt d) nm (docIts 0 d) ⟨-1,(docTxt d).length,(docTxt d).length⟩ c cs h rfl (docIts_ok d 0 hl) hc ht.1 ht.2 (by rw [ilines_doc];exact h0) (by rw [docIts_len];exact hlen) hpr hP).mono ?_
 rintro e w' ⟨F,Ls,he,hb,hf,hls⟩
 exact ⟨F,Ls,he,hb,hf,LinesAt.words d [] Ls hls⟩
end
section
open Go.RowKit Go.Proofs
def bsl (s:ByteArray):List UInt8:=s.data.toList
theorem bsl_len (s:ByteArray):(bsl s).length=s.size:=by cases s;simp [bsl,ByteArray.size]
theorem bt_ch (s:ByteArray) (k:Nat):bt s k=ch (bsl s) k:=by
 simp [bt,ch,bsl,Array.getD_eq_getD_getElem?,List.getD_eq_getElem?_getD]
theorem mkS_bsl (s:ByteArray):mkS (bsl s)=s:=mkS_of s
def wch (c:Nat):Bool:=letB c || digB c || c == 46 || c == 47
structure Nice (s:ByteArray):Prop where
 pos:0 < s.size
 len:s.size≤1000000
 chars:∀ k,k < s.size→wch (bt s k)=true
 sl:∀ k,k+1 < s.size→bt s k=47→bt s (k+1)≠47
theorem wch_bd {c:Nat} (h:wch c=true):(97≤c∧c≤122)∨(48≤c∧c≤57)∨c=46∨c=47:=by
 simp only [wch,letB,digB,Bool.or_eq_true,decide_eq_true_eq,beq_iff_eq] at h
 omega
theorem extract_two (s:ByteArray) (k a b:Nat) (h:k+2≤s.size) (ha:a < 256) (hb:b < 256) (he:(s.extract k (k+2)).toList=[UInt8.ofNat a,UInt8.ofNat b]):bt s k=a∧bt s (k+1)=b:=by
 rw [Lib.toList_data] at he
 have e1:(s.extract k (k+2)).data.toList=((bsl s).drop k).take 2:=by
   cases s;simp [bsl,ByteArray.extract,ByteArray.copySlice]
 rw [e1] at he
 have h1:=congrArg (fun l=>l[0]?) he
 have h2:=congrArg (fun l=>l[1]?) he
 simp [List.getElem?_drop] at h1 h2
 have l:=bsl_len s
 rw [bt_ch,bt_ch]
 unfold ch
 rw [List.getD_eq_getElem?_getD,List.getD_eq_getElem?_getD,h1,h2]
 simp [Nat.mod_eq_of_lt ha,Nat.mod_eq_of_lt hb]
theorem Nice.plain {s:ByteArray} (h:Nice s):Plain s:=by
 have hc:=fun k hk=>wch_bd (h.chars k hk)
 refine ⟨fun k hk=>by have:=hc k hk;omega,?_,h.len,?_⟩
 · have h0:=hc 0 h.pos
   rw [bt_ch] at h0
   have hl:=h.pos
   rw [← bsl_len] at hl
   change Lib.hasPrefix (bsl s) [34]=false
   cases hb:bsl s with
   | nil=>rw [hb] at hl;simp at hl
   | cons a l =>
     rw [hb] at h0
     have ha:a≠34:=by
       rintro rfl
       simp [ch] at h0
     simp [Lib.hasPrefix,List.isPrefixOf,Ne.symm ha]
 · unfold mqB
   have h1:(List.range s.size).any (mqAt s)=false:=by
     rw [List.any_eq_false]
     intro k hk
     have hk':k < s.size:=by simpa using hk
     have:=hc k hk'
     simp only [mqAt,qCh,brCh,Bool.or_eq_true,Bool.and_eq_true,beq_iff_eq,decide_eq_true_eq]
     omega
   have h2:(s.size == 0)=false:=by simp only [beq_eq_false_iff_ne,ne_eq];have:=h.pos;omega
   have h3:standsB s s2=false:=by
     unfold standsB
     rw [List.any_eq_false]
     intro k hk he
     simp only [atB,Bool.and_eq_true,decide_eq_true_eq,beq_iff_eq] at he
     have:=extract_two s k 47 47 he.1 (by omega) (by omega) (he.2.trans (by rw [Lib.toList_data];rfl))
     exact h.sl k (by have:=he.1;change k+2≤s.size at this;omega) this.1 this.2
   have h4:standsB s s3=false:=by
     unfold standsB
     rw [List.any_eq_false]
     intro k hk he
     simp only [atB,Bool.and_eq_true,decide_eq_true_eq,beq_iff_eq] at he
     have h5:=extract_two s k 47 42 he.1 (by omega) (by omega) (he.2.trans (by rw [Lib.toList_data];rfl))
     have h6:k+2≤s.size:=he.1
     have:=hc (k+1) (by omega)
     omega
   rw [h1,h2,h3,h4];rfl
theorem Nice.idW {s:ByteArray} (h:Nice s):IdW (bsl s):=by
 have hc:=fun k hk=>wch_bd (h.chars k hk)
 have hl:=bsl_len s
 refine ⟨by rw [hl];exact h.pos,fun i hi=>?_,?_,?_⟩
 · rw [hl] at hi
   have h1:=hc i hi
   rw [← bt_ch]
   refine ⟨?_,?_,?_⟩
   · simp only [idB,decide_eq_true_eq];omega
   · rintro ⟨h2,h3,h4⟩
     rw [hl] at h2
     rw [← bt_ch] at h3 h4
     exact h.sl i h2 h3 h4
   · rintro ⟨h2,h3,h4⟩
     rw [hl] at h2
     rw [← bt_ch] at h3 h4
     have:=hc (i+1) h2
     omega
 · rw [← bt_ch];have:=hc 0 h.pos;omega
 · rw [← bt_ch];have:=hc 0 h.pos;omega
theorem WordF.nice {s:ByteArray} (h:WordF s):Nice s:=by
 refine ⟨h.pos,by have:=h.len;omega,fun k hk=>?_,fun k hk h47=>?_⟩
 · have:=h.chars k hk
   unfold wdc at this;unfold wch;rw [this];rfl
 · have:=h.chars k (by omega)
   rw [h47] at this
   cases this
theorem cutOut_mono (s:ByteArray) (c:Nat):∀ j k,j≤k→∀ v ∈ cutOut s c j,v ∈ cutOut s c k:=by
 intro j k hjk
 induction k with
 | zero => obtain rfl : j = 0 := by omega
           exact fun v h=>h
 | succ k ih =>
   rcases Nat.lt_or_ge j (k+1) with h | h
   · intro v hv
     have:=ih (by omega) v hv
     simp only [cutOut];split
     · exact List.mem_append.2 (Or.inl this)
     · exact this
   · obtain rfl:j=k+1:=by omega
     exact fun v h=>h
theorem PathF.last {s:ByteArray} (h:PathF s):∃ n,s.size=n+1∧letB (bt s n)=true:=by
 have hl:=h.parts (.string (s.extract (cutFrom s 47 s.size) s.size)) (by simp [cutL])
 obtain ⟨p,n,hp,hn,_,hb⟩:=hl
 injection hp with hp
 have hle:=cutFrom_le s 47 s.size
 have hsz:p.size=s.size - cutFrom s 47 s.size:=by rw [← hp,ByteArray.size_extract];omega
 refine ⟨s.size - 1,by omega,?_⟩
 have hbt:bt p n=bt s (s.size - 1):=by
   rw [← hp,bt_ch,bt_ch]
   have e1:bsl (s.extract (cutFrom s 47 s.size) s.size)=((bsl s).drop (cutFrom s 47 s.size)).take (s.size - cutFrom s 47 s.size):=by
     cases s;simp [bsl,ByteArray.extract,ByteArray.copySlice,ByteArray.size]
   rw [e1]
   unfold ch
   rw [List.getD_eq_getElem?_getD,List.getD_eq_getElem?_getD,List.getElem?_take,if_pos (by omega),List.getElem?_drop]
   rw [show cutFrom s 47 s.size+n=s.size - 1 from by omega]
 rw [← hbt];exact hb
theorem PathF.nice {s:ByteArray} (h:PathF s):Nice s:=by
 obtain ⟨n,hn,_⟩:=h.last
 refine ⟨by omega,by have:=h.len;omega,fun k hk=>?_,fun k hk h1 h2=>?_⟩
 · have:=h.chars k hk
   simp only [pch,Bool.or_eq_true] at this
   simp only [wch,Bool.or_eq_true]
   rcases this with (h | h) | h
   · exact Or.inl (Or.inl (Or.inl h))
   · exact Or.inl (Or.inr h)
   · exact Or.inr h
 · have hm:Value.string (s.extract (k+1) (k+1)) ∈ cutOut s 47 (k+1+1):=by
     simp only [cutOut]
     rw [if_pos h2]
     refine List.mem_append.2 (Or.inr ?_)
     rw [show cutFrom s 47 (k+1)=k+1 from by simp [cutFrom,h1]]
     simp
   obtain ⟨p,m,hp,hm',_⟩:=h.parts _ (List.mem_append.2 (Or.inl (cutOut_mono s 47 (k+1+1) s.size (by omega) _ hm)))
   injection hp with hp
   rw [← hp,ByteArray.size_extract] at hm'
   omega
theorem PathF.noPre {s:ByteArray} (h:PathF s):Lib.hasPrefix s.data.toList gopkg.data.toList=false:=by
 have hp:=h.pre
 have hl:=bsl_len s
 rw [← Lib.hasPrefix_of_take]
 change (decide (9≤(bsl s).length) && ((bsl s).take 9 == ([103,111,112,107,103,46,105,110,47]:List UInt8)))=false
 have e:(s.extract 0 9).toList=(bsl s).take 9:=by
   rw [Lib.toList_data]
   cases s;simp [bsl,ByteArray.extract,ByteArray.copySlice]
 rw [e] at hp
 rw [hl]
 revert hp
 cases decide (9≤s.size) <;> cases ((bsl s).take 9 == ([103,111,112,107,103,46,105,110,47]:List UInt8)) <;> simp
end
section
open Go.RowKit Go.Proofs
def PI (v D r:ByteArray):Prop:=∀ w:World,Calls Tryz.prog 169 #[.string v] w fun e w'=>e=.returned (.tuple #[.string D,.string r,.bool true])∧∃ n,w'=w.drewN n
set_option maxHeartbeats 2000000 in
theorem parseInt_any (v:ByteArray) (j:Nat) (h0:0 < j) (hj:j≤v.size) (hd:∀ i,i < j→digB (bt v i)=true) (hend:j < v.size→digB (bt v j)=false) (hz:bt v 0≠48∨j=1) (hs:v.size≤1000000) :
   PI v (v.extract 0 j) (v.extract j v.size):=by
 intro w
 have hv0:0 < v.size:=by omega
 have he:v.toList.isEmpty=false:=full_of_size (n:=v.size - 1) (by omega)
 have hg0:(v[0]'hv0).toNat=bt v 0:=bt_get v 0 hv0
 have hd0:=hd 0 h0
 simp only [digB,decide_eq_true_eq] at hd0
 have c1:¬ (bt v 0:Int) < 48:=by omega
 have c2:¬ (57:Int) < (bt v 0:Int):=by omega
 have HD:=hide hd
 have HE:=hide hend
 have HZ:=hide hz
 clear hd hend hz hd0
 go_enter Tryz.func169,Tryz.ntmps169
 go_wp2_with fail
 go_loopg [5] (j - 1) (fun k v5 wr=>wr=w∧∃ i:Nat,1≤i∧i+k=j∧v5=.int .i64 (i:Int))
 case atStart=>exact ⟨rfl,1,by omega,by omega,rfl⟩
 case round =>
   obtain ⟨rfl,i,hi1,hik,rfl⟩:=hrel
   rcases Nat.lt_or_ge i j with hlt | hge
   · have hiv:i < v.size:=by omega
     have hg:(v[i]'hiv).toNat=bt v i:=bt_get v i hiv
     have hdi:=HD.out i hlt
     simp only [digB,decide_eq_true_eq] at hdi
     have d1:(48:Int)≤(bt v i:Int):=by omega
     have d2:(bt v i:Int)≤57:=by omega
     have d3:(i:Int) < (v.size:Int):=by omega
     clear hdi
     go_wp2_with fail
     go_roundg (j - (i+1))
     case measure=>omega
     case rel=>exact ⟨rfl,i+1,by omega,by omega,by simp⟩
   · obtain rfl:i=j:=by omega
     have fin:∀ (w':World) (e:Ending),e=.returned (.tuple #[.string (v.extract 0 i),.string (v.extract i v.size),.bool true])→(∃ n,w'=wr.drewN n)→(e=.returned (.tuple #[.string (v.extract 0 i),.string (v.extract i v.size),.bool true])∧∃ n,w'=wr.drewN n):=fun w' e h1 h2=>⟨h1,h2⟩
     have z0:(0:Int)≤(i:Int):=by omega
     have z1:(i:Int)≤(v.size:Int):=by omega
     have zz:((bt v 0:Int) == 48)=false∨(((bt v 0:Int) == 48)=true∧i=1):=by
       rcases HZ.out with h | h
       · exact Or.inl (by simp only [beq_eq_false_iff_ne];omega)
       · by_cases h48:bt v 0=48
         · exact Or.inr ⟨by rw [h48];rfl,h⟩
         · exact Or.inl (by simp only [beq_eq_false_iff_ne];omega)
     rcases Nat.lt_or_ge i v.size with hiv | hiv
     · have hg:(v[i]'hiv).toNat=bt v i:=bt_get v i hiv
       have hdi:=HE.out hiv
       simp only [digB,decide_eq_false_iff_not] at hdi
       have d3:(i:Int) < (v.size:Int):=by omega
       by_cases d1:(48:Int)≤(bt v i:Int)
       · have d2:¬ (bt v i:Int)≤57:=by omega
         clear hdi
         rcases zz with zz | ⟨zz,rfl⟩
         all_goals
           go_wp2_with fail
           go_quiet (fail)
           go_wp2_with fail
           go_returns
           exact ⟨rfl,_,rfl⟩
       · clear hdi
         rcases zz with zz | ⟨zz,rfl⟩
         all_goals
           go_wp2_with fail
           go_quiet (fail)
           go_wp2_with fail
           go_returns
           exact ⟨rfl,_,rfl⟩
     · have hsz:v.size=i:=by omega
       have d3:¬ (i:Int) < (v.size:Int):=by omega
       clear hsz
       rcases zz with zz | ⟨zz,rfl⟩
       all_goals
         go_wp2_with fail
         go_quiet (fail)
         go_wp2_with fail
         go_returns
         exact ⟨rfl,_,rfl⟩
theorem Below.drewN' {B:Nat} {a w:World} (h:Below B a w) (n:Nat):Below B a (w.drewN n):=⟨h.os,h.tape,h.output,h.size,h.block⟩
structure Ver3 (s v1 v2 v3 v4 v5 D z1 z2:ByteArray):Prop where
 hpos:0 < s.size
 h118:bt s 0=118
 e1:s.extract 1 s.size=v1
 p1:PI v1 D v2
 h2:0 < v2.size
 b2:bt v2 0=46
 e2:v2.extract 1 v2.size=v3
 p2:PI v3 z1 v4
 h4:0 < v4.size
 b4:bt v4 0=46
 e4:v4.extract 1 v4.size=v5
 p5:PI v5 z2 ⟨#[]⟩
def parsed3 (D z1 z2:ByteArray):Value:=.agg #[.string D,.string z1,.string z2,.string ⟨#[]⟩,.string ⟨#[]⟩,.string ⟨#[]⟩]
set_option maxHeartbeats 2000000 in
theorem semver_good (s v1 v2 v3 v4 v5 D z1 z2:ByteArray) (w:World) (h:Ver3 s v1 v2 v3 v4 v5 D z1 z2) :
   Calls Tryz.prog 143 #[.string s] w fun e w'=>e=.returned (.tuple #[parsed3 D z1 z2,.bool true])∧Below w.heap.size w w':=by
 obtain ⟨hpos,h118,e1,p1,h2,b2,e2,p2,h4,b4,e4,p5⟩:=h
 have g0:(s[0]'hpos).toNat=bt s 0:=bt_get s 0 hpos
 have g2:(v2[0]'h2).toNat=bt v2 0:=bt_get v2 0 h2
 have g4:(v4[0]'h4).toNat=bt v4 0:=bt_get v4 0 h4
 have f0:((bt s 0:Int) != 118)=false:=by rw [h118];rfl
 have f2:((bt v2 0:Int) != 46)=false:=by rw [b2];rfl
 have f4:((bt v4 0:Int) != 46)=false:=by rw [b4];rfl
 have n0:s.toList.isEmpty=false:=full_of_size (n:=s.size - 1) (by omega)
 have n2:v2.toList.isEmpty=false:=full_of_size (n:=v2.size - 1) (by omega)
 have n4:v4.toList.isEmpty=false:=full_of_size (n:=v4.size - 1) (by omega)
 have i0:(1:Int)≤(s.size:Int):=by omega
 have i2:(1:Int)≤(v2.size:Int):=by omega
 have i4:(1:Int)≤(v4.size:Int):=by omega
 have P1:=hide p1
 have P2:=hide p2
 have P5:=hide p5
 clear h118 b2 b4 p1 p2 p5
 go_enter Tryz.func143,Tryz.ntmps143
 go_wp2_with fail
 go_fit (P1.out _)
 rintro e w1 ⟨rfl,n1,rfl⟩
 go_wp2_with fail
 go_fit (P2.out _)
 rintro e w1 ⟨rfl,n2,rfl⟩
 go_wp2_with fail
 go_fit (P5.out _)
 rintro e w1 ⟨rfl,n3,rfl⟩
 go_wp2_with fail
 refine (show ∀ W5:World,Blk W5 w.heap.size 245 #[.string D,.string z1,.string z2,.string ⟨#[]⟩,.string ⟨#[]⟩,.string ⟨#[]⟩]→Below w.heap.size w W5→bodyPost Tryz.prog _ _ Exit.ret _ W5 from fun W5 b5 hb5=>?_) _
   ((((((((Blk.new w _ _).drewN n1).set 0 (.string D)).drewN n2).set 1 (.string z1)).drewN n3).set 2 (.string z2)).eq (by simp))
   ((Below.drewN' ((Below.drewN' ((Below.drewN' ((Below.refl _ w).alloc (Nat.le_refl _) _) n1).setCell (Nat.le_refl _) _) n2).setCell (Nat.le_refl _) _) n3).setCell (Nat.le_refl _) _)
 have q0:W5.cell? ⟨w.heap.size,0,none⟩=some (.string D):=b5.cell 0 rfl
 have q1:W5.cell? ⟨w.heap.size,1,none⟩=some (.string z1):=b5.cell 1 rfl
 have q2:W5.cell? ⟨w.heap.size,2,none⟩=some (.string z2):=b5.cell 2 rfl
 have q3:W5.cell? ⟨w.heap.size,3,none⟩=some (.string ⟨#[]⟩):=b5.cell 3 rfl
 have q4:W5.cell? ⟨w.heap.size,4,none⟩=some (.string ⟨#[]⟩):=b5.cell 4 rfl
 have q5:W5.cell? ⟨w.heap.size,5,none⟩=some (.string ⟨#[]⟩):=b5.cell 5 rfl
 exact bodyPost_ret (v:=.tuple #[parsed3 D z1 z2,.bool true]) (by simp [results,Tryz.results143,go_sem,parsed3,q0,q1,q2,q3,q4,q5]) rfl ⟨rfl,hb5⟩
end
section
open Go.RowKit Go.Proofs
open Go.Extern.Stop Go.Stop Go.Extern
-- fmt.errorf: a plain stop
@[go_sem] theorem Tryz.callErrorf (args:Array Value) (w:World):(callFunc 144 args).run Tryz.prog w=((FmtStop.errorf #[9,161] #[66] args).run Tryz.prog w).andThen fun v w'=>.ok (.value v) w' :=
 run_callFunc_extern Tryz.func144 (by kernel_rfl) (by kernel_rfl) (by kernel_rfl) (by kernel_rfl) args w
@[go_sem] theorem Tryz.guardStop (name:String) (w:World):(FmtStop.guard name).run Tryz.prog w=.ok () w:=by kernel_rfl
@[go_sem] theorem Tryz.fmt0:FmtStop.printed? ⟨#[115,104,111,117,108,100,32,98,101,32,37,115,44,32,110,111,116,32,37,115]⟩ 2=some [(0,115,false),(1,115,false)]:=by kernel_rfl
@[go_sem] theorem Tryz.fmt0r (w:World):(FmtDoors.printed ⟨#[115,104,111,117,108,100,32,98,101,32,37,115,44,32,110,111,116,32,37,115]⟩ 2).run Tryz.prog w=.ok [(0,115,false),(1,115,false)] w:=by kernel_rfl
@[go_sem] theorem Tryz.fmt1:FmtStop.printed? ⟨#[115,104,111,117,108,100,32,98,101,32,37,115,44,32,110,111,116,32,37,115]⟩ 0=some []:=by kernel_rfl
@[go_sem] theorem Tryz.fmt1r (w:World):(FmtDoors.printed ⟨#[115,104,111,117,108,100,32,98,101,32,37,115,44,32,110,111,116,32,37,115]⟩ 0).run Tryz.prog w=.ok [] w:=by kernel_rfl
def Tryz.shapeS:List UInt8:=[12,6,0,0,0,0,0,0,0,115,116,114,105,110,103]
@[go_sem] theorem Tryz.opS_115 (name:String) (x:ByteArray) (w:World):(FmtStop.operand name false 115 false (.iface 9 (.string x))).run Tryz.prog w=.ok (Tryz.shapeS,FmtStop.pack x.data.toList) w:=by kernel_rfl
@[go_sem] theorem Tryz.opS_115w (name:String) (x:ByteArray) (w:World):(FmtStop.operand name true 115 false (.iface 9 (.string x))).run Tryz.prog w=.ok (Tryz.shapeS,FmtStop.pack x.data.toList) w:=by kernel_rfl
@[go_sem] theorem Tryz.ptrE (w:World):(FmtStop.ptrTo "errors.errorString").run Tryz.prog w=.ok 180 w:=by kernel_rfl
@[go_sem] theorem Tryz.elemE (w:World):(elemOf 180).run Tryz.prog w=.ok 182 w:=by kernel_rfl
@[go_sem] theorem Tryz.isErrorE (w:World):(FmtDoors.textMethod 180 "Error").run Tryz.prog w=.ok true w:=by kernel_rfl
end
end Go.Proofs.YtifkpibjeamfkaaGreatFmt
