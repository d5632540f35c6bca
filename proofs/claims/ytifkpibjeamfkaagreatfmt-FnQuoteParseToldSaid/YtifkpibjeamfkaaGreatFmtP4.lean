/- (*input).parseFile at a text of lines of words. -/
import Derived.Test.YtifkpibjeamfkaaGreatFmtP3
set_option linter.unusedVariables false
namespace Go.Proofs.YtifkpibjeamfkaaGreatFmt
open Go.RowKit Go.Proofs

theorem Chain.pre {T : List UInt8} {t : Tk} {a b : List Tk} (h : Chain T t (a ++ b)) : Chain T t a := by
  induction a generalizing t with
  | nil => exact True.intro
  | cons x a ih => exact ⟨h.1, ih h.2⟩
theorem Chain.suf {T : List UInt8} {t c : Tk} {a b : List Tk} (h : Chain T t (a ++ c :: b)) : Chain T c b := by
  induction a generalizing t with
  | nil => exact h.2
  | cons x a ih => exact ih h.2

/-- An empty line, or a line of words. -/
inductive It
  | blank (nl : Tk)
  | line (t : Tk) (ts : List Tk) (nl : Tk)
def It.toks : It → List Tk
  | .blank nl => [nl]
  | .line t ts nl => t :: (ts ++ [nl])
def itoks : List It → List Tk
  | [] => []
  | i :: is => i.toks ++ itoks is
def It.ok : It → Prop
  | .blank nl => nl.k = 10
  | .line t ts nl => Word t ∧ (∀ u ∈ ts, Word u) ∧ nl.k = 10 ∧ ts.length ≤ 1000000
def It.lines : It → List (Tk × List Tk)
  | .blank _ => []
  | .line t ts _ => [(t, ts)]
def ilines : List It → List (Tk × List Tk)
  | [] => []
  | i :: is => i.lines ++ ilines is
theorem ilines_append (a b : List It) : ilines (a ++ b) = ilines a ++ ilines b := by
  induction a with
  | nil => rfl
  | cons i is ih => simp [ilines, ih, List.append_assoc]

/-- Lines in memory. -/
inductive LinesAt (N : Nat) (w : World) (T : List UInt8) : List Nat → List (Tk × List Tk) → Prop
  | nil : LinesAt N w T [] []
  | cons {L : Nat} {Ls : List Nat} {l : Tk × List Tk} {ls : List (Tk × List Tk)} (h : LineAt N w T L l.1 l.2) (k : LinesAt N w T Ls ls) : LinesAt N w T (L :: Ls) (l :: ls)
theorem LinesAt.keptT {N M : Nat} {S : TypeId → Prop} {w w' : World} {T : List UInt8} {Ls : List Nat} {ls : List (Tk × List Tk)} (h : LinesAt N w T Ls ls) (k : Kt M S w w') (h1 : ¬ S 136) (h2 : ¬ S 9) : LinesAt N w' T Ls ls := by
  induction h with
  | nil => exact .nil
  | cons h _ ih => exact .cons (h.keptT k h1 h2) ih
theorem LinesAt.len {N : Nat} {w : World} {T : List UInt8} {Ls : List Nat} {ls : List (Tk × List Tk)} (h : LinesAt N w T Ls ls) : Ls.length = ls.length := by
  induction h with
  | nil => rfl
  | cons _ _ ih => simp [ih]
theorem LinesAt.snoc {N : Nat} {w : World} {T : List UInt8} {Ls : List Nat} {ls : List (Tk × List Tk)} {L : Nat} {t : Tk} {ts : List Tk} (h : LinesAt N w T Ls ls) (k : LineAt N w T L t ts) : LinesAt N w T (Ls ++ [L]) (ls ++ [(t, ts)]) := by
  induction h with
  | nil => exact .cons k .nil
  | cons h _ ih => exact .cons h ih

theorem At.file {w : World} {σ : Lx} {t : Tk} (h : At w σ t) (v : Value) : At (w.setCell ⟨σ.B, 16, none⟩ v) { σ with file := v } t := by
  obtain ⟨q, ts, hs, hx⟩ := h
  refine ⟨q, ts, hs, ⟨?_, fun j hj => ?_, hx.ascii, hx.hp, hx.hn, hx.hC, hx.hT, hx.hq, ?_⟩⟩
  · exact (hx.blk.set 16 v).eq (by simp [Lx.cells, Lx.lexed])
  · have := hx.txt j hj
    rw [World.cell?_setCell_far _ _ _ _ (by intro e; exact hx.ne e.symm)]
    exact this
  · obtain ⟨cs, fz, e⟩ := hx.dat
    exact ⟨cs, fz, (Below.heap_setCell _ _ _ _ hx.ne).trans e⟩
theorem At.kind {w : World} {σ : Lx} {t : Tk} (h : At w σ t) : w.cell? ⟨σ.B, 4, none⟩ = some (.int .i64 t.k) := by
  obtain ⟨q, ts, _, hx⟩ := h
  exact hx.c4

def PFInv (N : Nat) (σ : Lx) (w : World) (its : List It) (en : Tk) (F : Nat) (k : Nat) (v2 : Value) (wr : World) : Prop :=
  ∃ pre rest c cs Ls, its = pre ++ rest ∧ rest.length = k ∧ itoks rest ++ [en] = c :: cs ∧ Chain σ.T c cs ∧ v2 = .pointer none ∧ At wr σ c ∧
    FileAt N wr F ⟨#[]⟩ (Ls.map lineV) ∧ LinesAt N wr σ.T Ls (ilines pre) ∧ Kt N Stmt3 w wr ∧ Ls.length ≤ pre.length

theorem itoks_cons (its : List It) (en : Tk) : ∃ d ds, itoks its ++ [en] = d :: ds := by
  cases its with
  | nil => exact ⟨_, _, rfl⟩
  | cons i is => cases i <;> exact ⟨_, _, rfl⟩

set_option maxRecDepth 100000 in
set_option maxHeartbeats 2000000 in
theorem parseFile_lines (N : Nat) (σ : Lx) (w : World) (its : List It) (en : Tk) (c : Tk) (cs : List Tk) (hen : en.k = -1) (hits : ∀ i ∈ its, i.ok) (hts : itoks its ++ [en] = c :: cs) (hch : Chain σ.T c cs) (h : At w σ c)
    (hlen : its.length ≤ 1000000) (hpr : PrTab w) (hP : 0 < N) (hN : N ≤ σ.B) :
    Calls Tryz.prog 60 #[.pointer (some ⟨σ.B, 0, none⟩)] w fun e w' => e = .returned (.tuple #[]) ∧ ∃ F Ls, w.heap.size ≤ F ∧ At w' { σ with file := .pointer (some ⟨F, 0, none⟩) } en ∧ Kt N Stmt3 w w' ∧
      FileAt N w' F ⟨#[]⟩ (Ls.map lineV) ∧ LinesAt N w' σ.T Ls (ilines its) := by
  have hlt : σ.B < w.heap.size := by obtain ⟨q, ts, _, hx⟩ := h; exact hx.blk.lt
  have hNw : N ≤ w.heap.size := by omega
  have hne : w.heap.size ≠ σ.B := by omega
  have hcell : ∃ u, w.cell? ⟨σ.B, 16, none⟩ = some u := by obtain ⟨q, ts, _, hx⟩ := h; exact ⟨_, hx.c16⟩
  obtain ⟨u16, h16⟩ := hcell
  have hfr : w.frozen? ⟨σ.B, 16, none⟩ = false := by obtain ⟨q, ts, _, hx⟩ := h; exact hx.blk.free 16
  have H := hide h
  have HP := hide hpr
  have HC := hide hch
  have HT := hide hts
  have HI := hide hits
  have HE := hide hen
  clear h hpr hch hts hits hen
  go_enter Tryz.func60, Tryz.ntmps60
  go_wp2_with fail
  have hsz : (w.setCell ⟨σ.B, 16, none⟩ (.pointer (some ⟨w.heap.size, 0, none⟩))).heap.size = w.heap.size := by simp
  have hAB : At (w.setCell ⟨σ.B, 16, none⟩ (.pointer (some ⟨w.heap.size, 0, none⟩))) { σ with file := .pointer (some ⟨w.heap.size, 0, none⟩) } c := H.out.file _
  have hblkB : ∃ cs, Blk w σ.B 155 cs := by obtain ⟨q, ts, _, hx⟩ := H.out; exact ⟨_, hx.blk⟩
  obtain ⟨csB, hblkB⟩ := hblkB
  have kw : Kt N Stmt3 w ((w.setCell ⟨σ.B, 16, none⟩ (.pointer (some ⟨w.heap.size, 0, none⟩))).alloc (Obj.cells #[Value.string ⟨#[]⟩, nilS, nilS, nilS, nilS] 129)) := by
    refine Kt.alloc ?_ hNw _
    refine Kt.set_blk ?_ hN hblkB (Or.inl rfl)
    exact Kt.refl _ _ _
  have hF0 := Blk.new (w.setCell ⟨σ.B, 16, none⟩ (.pointer (some ⟨w.heap.size, 0, none⟩))) 129 #[Value.string ⟨#[]⟩, nilS, nilS, nilS, nilS]
  rw [hsz] at hF0
  have INV : Hid (PFInv N { σ with file := .pointer (some ⟨w.heap.size, 0, none⟩) } w its en w.heap.size its.length (.pointer none) ((w.setCell ⟨σ.B, 16, none⟩ (.pointer (some ⟨w.heap.size, 0, none⟩))).alloc (Obj.cells #[Value.string ⟨#[]⟩, nilS, nilS, nilS, nilS] 129))) := by
    refine hide ⟨[], its, c, cs, [], rfl, rfl, HT.out, HC.out, rfl, ?_, ⟨nilS, hF0, rfl, Or.inl ⟨rfl, rfl⟩⟩, .nil, kw, Nat.le_refl _⟩
    exact hAB.keptT (Kt.alloc (Kt.refl N (fun _ => False) _) (by rw [hsz]; exact hNw) _) id id
  change Code.wp _ _ _ _ ((w.setCell ⟨σ.B, 16, none⟩ (.pointer (some ⟨w.heap.size, 0, none⟩))).alloc (Obj.cells #[Value.string ⟨#[]⟩, nilS, nilS, nilS, nilS] 129))
  generalize ((w.setCell ⟨σ.B, 16, none⟩ (.pointer (some ⟨w.heap.size, 0, none⟩))).alloc (Obj.cells #[Value.string ⟨#[]⟩, nilS, nilS, nilS, nilS] 129)) = W at INV ⊢
  clear hAB kw hF0 hsz hblkB csB h16 hfr
  have HNW := hide hNw
  go_loopg [2] its.length (fun k v2 wr => Hid (PFInv N { σ with file := .pointer (some ⟨w.heap.size, 0, none⟩) } w its en w.heap.size k v2 wr))
  case atStart => exact INV
  case round =>
    obtain ⟨pre, rest, t, tt, Ls, hpr, hgk, hrc, hct, rfl, hatc, hF, hLs, hkt, hll⟩ := hrel.out
    clear hrel INV
    have hkd : wr.cell? ⟨σ.B, 4, none⟩ = some (.int .i64 t.k) := hatc.kind
    have HPR := hide hpr
    have HGK := hide hgk
    have HRC := hide hrc
    have HCT := hide hct
    have HAC := hide hatc
    have HF := hide hF
    have HLS := hide hLs
    have HK := hide hkt
    have HLL := hide hll
    clear hpr hgk hrc hct hatc hF hLs hkt hll
    rcases rest with _ | ⟨it, rest⟩
    · obtain ⟨rfl, rfl⟩ : t = en ∧ tt = [] := by
        have := HRC.out
        simp only [itoks, List.nil_append, List.cons.injEq] at this
        exact ⟨this.1.symm, this.2.symm⟩
      have h0 : pre = its := by have := HPR.out; simpa using this.symm
      go_wp2_with fail
      refine (peek_any σ.B (-1) _ (by rw [hkd, HE.out])).mono ?_
      rintro e w1 ⟨rfl, rfl⟩
      go_wp2_with fail
      go_returns
      refine ⟨rfl, w.heap.size, Ls, Nat.le_refl _, HAC.out, HK.out, HF.out, ?_⟩
      rw [← h0]; exact HLS.out
    · obtain ⟨d, ds, hd⟩ := itoks_cons rest en
      have hmem : it.ok := HI.out it (by rw [HPR.out]; simp)
      rcases it with nl | ⟨t', ts, nl⟩
      · obtain ⟨rfl, rfl⟩ : t = nl ∧ tt = d :: ds := by
          have := HRC.out
          simp only [itoks, It.toks, List.cons_append, List.nil_append, List.cons.injEq] at this
          exact ⟨this.1.symm, this.2.symm.trans hd⟩
        have h10 : t.k = 10 := hmem
        rw [h10] at hkd
        have htd : TokAt σ.T t.e d := HCT.out.1
        have HTD := hide htd
        have HD := hide hd
        have H10 := hide h10
        clear htd hd h10 hmem
        go_wp2_with fail
        refine (peek_any σ.B 10 _ hkd).mono ?_
        rintro e w1 ⟨rfl, rfl⟩
        go_wp2_with fail
        refine (lex_at N { σ with file := .pointer (some ⟨w.heap.size, 0, none⟩) } wr t d HAC.out HTD.out (HP.out.keptT HK.out hP) hP hN).mono ?_
        rintro e w2 ⟨rfl, hat2, hk2⟩
        have HA2 := hide hat2
        have HK2 := hide hk2
        clear hat2 hk2
        unfold Tk.val
        go_wp2_with fail
        go_roundg rest.length
        case measure => have := HGK.out; simp at this; omega
        case rel =>
          refine hide ⟨pre ++ [.blank t], rest, d, ds, Ls, by rw [HPR.out]; simp, rfl, HD.out, HCT.out.2, rfl, HA2.out, HF.out.keptT HK2.out (by decide) (by decide), ?_, HK.out.trans (HK2.out.mono (fun u h => Or.inl h)), ?_⟩
          · rw [ilines_append]
            have := HLS.out.keptT HK2.out (by decide) (by decide)
            simpa [ilines, It.lines] using this
          · have := HLL.out; simp; omega
      · obtain ⟨rfl, hrest⟩ : t = t' ∧ tt = ts ++ [nl] ++ d :: ds := by
          have := HRC.out
          simp only [itoks, It.toks, List.cons_append, List.append_assoc, List.nil_append, List.cons.injEq] at this
          refine ⟨this.1.symm, ?_⟩
          rw [← this.2, hd.symm]
          simp
        have hch1 : Chain σ.T t (ts ++ [nl, d]) := by
          have h1 : Chain σ.T t tt := HCT.out
          rw [hrest, show ts ++ [nl] ++ d :: ds = (ts ++ [nl, d]) ++ ds from by simp] at h1
          exact h1.pre
        have hch2 : Chain σ.T d ds := by
          have h1 : Chain σ.T t tt := HCT.out
          rw [hrest] at h1
          exact h1.suf
        have f1 : (t.k == -1) = false := by rcases hmem.1 with h | h <;> rw [h] <;> rfl
        have f5 : (t.k == -5) = false := by rcases hmem.1 with h | h <;> rw [h] <;> rfl
        have f10 : (t.k == 10) = false := by rcases hmem.1 with h | h <;> rw [h] <;> rfl
        have HM := hide hmem
        have HC1 := hide hch1
        have HC2 := hide hch2
        have HD := hide hd
        have HRR := hide hrest
        clear hmem hch1 hch2 hd hrest
        have hxl : (Ls.map lineV).length ≤ 1000000 := by
          have h1 := HLL.out
          have h2 := congrArg List.length HPR.out
          simp at h2
          simp; omega
        go_wp2_with fail
        refine (peek_any σ.B t.k _ hkd).mono ?_
        rintro e w1 ⟨rfl, rfl⟩
        go_wp2_with fail
        refine (parseStmt_line N { σ with file := .pointer (some ⟨w.heap.size, 0, none⟩) } wr t ts nl d w.heap.size ⟨#[]⟩ (Ls.map lineV) HAC.out HC1.out HM.out.2.1 HM.out.2.2.1 rfl HF.out HM.out.2.2.2 hxl (HP.out.keptT HK.out hP) hP hN HNW.out).mono ?_
        rintro e w2 ⟨rfl, hat2, hk2, L, hL, hln, hf2⟩
        have HA2 := hide hat2
        have HK2 := hide hk2
        have HLN := hide hln
        have HF2 := hide hf2
        clear hat2 hk2 hln hf2
        go_wp2_with fail
        go_roundg rest.length
        case measure => have := HGK.out; simp at this; omega
        case rel =>
          have hls2 : LinesAt N w2 σ.T Ls (ilines pre) := by
            have h1 := HLS.out
            exact h1.keptT HK2.out (by simp [Stmt3]) (by simp [Stmt3])
          refine hide ⟨pre ++ [.line t ts nl], rest, d, ds, Ls ++ [L], by rw [HPR.out]; simp, rfl, HD.out, HC2.out, rfl, HA2.out, ?_, ?_, HK.out.trans HK2.out, ?_⟩
          · simpa using HF2.out
          · rw [ilines_append]
            have := hls2.snoc HLN.out
            simpa [ilines, It.lines] using this
          · have := HLL.out; simp; omega
end Go.Proofs.YtifkpibjeamfkaaGreatFmt
