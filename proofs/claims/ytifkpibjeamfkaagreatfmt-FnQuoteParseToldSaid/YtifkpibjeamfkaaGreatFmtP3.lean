/- (*input).parseStmt at a line of words. -/
import Derived.Test.YtifkpibjeamfkaaGreatFmtP2
import Derived.Deep.AppendLies
set_option linter.unusedVariables false
namespace Go.Proofs.YtifkpibjeamfkaaGreatFmt
open Go.RowKit Go.Proofs

theorem isEOL_no (k : Int) (w : World) (h1 : (k == -1) = false) (h2 : (k == -2) = false) (h3 : (k == 10) = false) :
    Calls Tryz.prog 132 #[.int .i64 k] w fun e w' => e = .returned (.bool false) ∧ w = w' := by
  go_enter Tryz.func132, Tryz.ntmps132
  go_wp2
  go_ret
  exact ⟨rfl, rfl⟩
theorem isEOL_nl (w : World) :
    Calls Tryz.prog 132 #[.int .i64 10] w fun e w' => e = .returned (.bool true) ∧ w = w' := by
  go_enter Tryz.func132, Tryz.ntmps132
  go_wp2
  go_ret
  exact ⟨rfl, rfl⟩

theorem Tryz.infoStr : (Tryz.prog.info? 9).map (fun i => (i.zero, i.size, i.bytes)) = some (some (.string ⟨#[]⟩), 1, 16) := by kernel_rfl
theorem Tryz.infoExpr : (Tryz.prog.info? 131).map (fun i => (i.zero, i.size, i.bytes)) = some (some .nilIface, 1, 16) := by kernel_rfl
theorem Tryz.und_strs : Tryz.prog.underlying 26 = some (.slice 9) := by kernel_rfl
theorem Tryz.und_exprs : Tryz.prog.underlying 127 = some (.slice 131) := by kernel_rfl

theorem Kt.of_append {W w1 : World} {N : Nat} {e : TypeId} {size n : Nat} {v : Value} {xs : List Value} (hown : W.ownsRow N e size v n xs) (hg : W.grownBy w1 v.ownBlock) (hN : N ≤ W.heap.size) : Kt N (fun u => u = e) W w1 := by
  refine Kt.grown (Kt.refl _ _ _) hN hg (fun k hk => ?_)
  rcases hown.2 with ⟨rfl, _⟩ | ⟨g, cap, cur, rfl, hb, hh, _⟩
  · simp [Value.ownBlock] at hk
  · obtain rfl : g = k := by simpa [Value.ownBlock] using hk
    refine ⟨hb, fun cs t fz e => ?_⟩
    rw [hh] at e
    injection e with e
    injection e with _ e
    exact e.symm

theorem owns_new (w : World) (base : Nat) (e : TypeId) (cs : Array Value) (hb : base ≤ w.heap.size) (hm : cs.size ≤ maxLen) :
    (w.alloc (.cells cs e)).ownsRow base e 1 (.slice (some ⟨w.heap.size, 0, none⟩) cs.size cs.size) cs.size cs.toList := by
  refine ⟨by simp, .inr ⟨w.heap.size, cs.size, cs, rfl, hb, heap_alloc_new w _, Nat.le_refl _, hm, by simp, ?_⟩⟩
  simp [List.take_of_length_le]
theorem news_two (w : World) (o : Obj) (cs : Array Value) (t : TypeId) : ∀ (j : Nat) (u : Value), cs.toList[j]? = some u → ((w.alloc o).alloc (.cells cs t)).cell? ((⟨w.heap.size + 1, 0, none⟩ : Addr).add j) = some u := by
  have h := heap_alloc_new (w.alloc o) (.cells cs t)
  rw [show (w.alloc o).heap.size = w.heap.size + 1 from by simp] at h
  exact World.news_of_block h
theorem owns_form {w : World} {N : Nat} {e : TypeId} {size n : Nat} {v : Value} {xs : List Value} (h : w.ownsRow N e size v (n + 1) xs) : ∃ g cap, v = .slice (some ⟨g, 0, none⟩) (n + 1) cap := by
  rcases h.2 with ⟨_, h2⟩ | ⟨g, cap, cur, e, _⟩
  · omega
  · exact ⟨g, cap, e⟩
/-- Tokens that follow each other. -/
def Chain (T : List UInt8) : Tk → List Tk → Prop
  | _, [] => True
  | t, u :: us => TokAt T t.e u ∧ Chain T u us
/-- A word of a line: an identifier or a quoted string. -/
def Word (t : Tk) : Prop := t.k = -3 ∨ t.k = -4
def Tk.pos (T : List UInt8) (i : Nat) : Array Value := #[.int .i64 (lineAt T i : Nat), .int .i64 (colAt T i : Nat), .int .i64 (i : Nat)]
def nilS : Value := .slice none 0 0
def lastTk (t : Tk) (ts : List Tk) : Tk := (ts.getLast?).getD t

/-- A line in memory: its words, its place. -/
def LineAt (N : Nat) (w : World) (T : List UInt8) (L : Nat) (t : Tk) (ts : List Tk) : Prop :=
  ∃ tv, Blk w L 136 #[nilS, nilS, nilS, .int .i64 (lineAt T t.s : Nat), .int .i64 (colAt T t.s : Nat), .int .i64 (t.s : Nat), tv, .bool false,
      .int .i64 (lineAt T (lastTk t ts).e : Nat), .int .i64 (colAt T (lastTk t ts).e : Nat), .int .i64 ((lastTk t ts).e : Nat)] ∧
    w.ownsRow N 9 1 tv (ts.length + 1) ((t :: ts).map fun u => .string (txtOf T u))
def FileAt (N : Nat) (w : World) (F : Nat) (nm : ByteArray) (xs : List Value) : Prop :=
  ∃ v, Blk w F 129 #[.string nm, nilS, nilS, nilS, v] ∧ w.ownsRow N 131 1 v xs.length xs
def lineV (L : Nat) : Value := .iface 92 (.pointer (some ⟨L, 0, none⟩))

theorem Chain.mid {T : List UInt8} {t c d : Tk} {a b : List Tk} (h : Chain T t (a ++ c :: d :: b)) : TokAt T c.e d := by
  induction a generalizing t with
  | nil => exact h.2.1
  | cons x a ih => exact ih h.2
theorem FileAt.keptT {N M : Nat} {S : TypeId → Prop} {w w' : World} {F : Nat} {nm : ByteArray} {xs : List Value} (h : FileAt N w F nm xs) (k : Kt M S w w') (h1 : ¬ S 129) (h2 : ¬ S 131) : FileAt N w' F nm xs := by
  obtain ⟨v, hb, ho⟩ := h
  exact ⟨v, hb.keptT k h1, ownsRow_keptT ho k h2⟩
theorem LineAt.keptT {N M : Nat} {S : TypeId → Prop} {w w' : World} {T : List UInt8} {L : Nat} {t : Tk} {ts : List Tk} (h : LineAt N w T L t ts) (k : Kt M S w w') (h1 : ¬ S 136) (h2 : ¬ S 9) : LineAt N w' T L t ts := by
  obtain ⟨v, hb, ho⟩ := h
  exact ⟨v, hb.keptT k h1, ownsRow_keptT ho k h2⟩

def Stmt3 (u : TypeId) : Prop := u = 155 ∨ u = 129 ∨ u = 131

/-- What holds at the head of parseStmt's loop: pre has been read. -/
def PSInv (N : Nat) (σ : Lx) (w : World) (t : Tk) (ts : List Tk) (nl tn : Tk) (F : Nat) (nm : ByteArray) (xs : List Value) (b3 b4 : Nat) (k : Nat) (v5 : Value) (wr : World) : Prop :=
  ∃ pre rest c cs, ts = pre ++ rest ∧ rest.length = k ∧ rest ++ [nl, tn] = c :: cs ∧ At wr σ c ∧ Blk wr b3 134 (Tk.pos σ.T t.s) ∧ Blk wr b4 134 (Tk.pos σ.T (lastTk t pre).e) ∧
    wr.ownsRow w.heap.size 9 1 v5 (pre.length + 1) ((t :: pre).map fun u => .string (txtOf σ.T u)) ∧ Kt N Stmt3 w wr ∧ FileAt N wr F nm xs

/-- What parseStmt's append of a word leaves. -/
theorem ps_append {N : Nat} {w2 w3 : World} {T : List UInt8} {c : Tk} {v : Value} {n : Nat} {xs : List Value} {b4 : Nat} {p4 : Array Value} (hown : w2.ownsRow N 9 1 v n xs) (hN : N ≤ w2.heap.size)
    (hg : ((w2.alloc (Obj.cells (c.cells T) 153)).alloc (Obj.cells #[Value.string (txtOf T c)] 9)).grownBy w3 v.ownBlock) (h4 : Blk w2 b4 134 p4) :
    Kt N (fun u => u = 9) w2 w3 ∧ Blk w3 w2.heap.size 153 (c.cells T) ∧ Blk w3 b4 134 p4 := by
  have k0 : Kt N (fun _ => False) w2 ((w2.alloc (Obj.cells (c.cells T) 153)).alloc (Obj.cells #[Value.string (txtOf T c)] 9)) := ((Kt.refl _ _ _).alloc hN _).alloc hN _
  have k1 := Kt.of_append ((hown.alloc (Obj.cells (c.cells T) 153)).alloc (Obj.cells #[Value.string (txtOf T c)] 9)) hg (by simp; omega)
  exact ⟨(k0.mono (fun _ h => h.elim)).trans k1, ((Blk.new w2 153 (c.cells T)).alloc _).keptT k1 (by decide), ((h4.alloc _).alloc _).keptT k1 (by decide)⟩

theorem ps_append2 {N : Nat} {w2 w3 : World} {v : Value} {n : Nat} {xs : List Value} (o1 o2 : Obj) {e : TypeId} {sz : Nat} (hown : w2.ownsRow N e sz v n xs) (hN : N ≤ w2.heap.size)
    (hg : ((w2.drew.alloc o1).alloc o2).grownBy w3 v.ownBlock) : Kt N (fun u => u = e) w2 w3 := by
  have k0 : Kt N (fun _ => False) w2 ((w2.drew.alloc o1).alloc o2) := (((Kt.refl _ _ _).drew).alloc hN _).alloc hN _
  have k1 := Kt.of_append ((hown.drew.alloc o1).alloc o2) hg (by simp; omega)
  exact (k0.mono (fun _ h => h.elim)).trans k1

set_option maxRecDepth 100000 in
set_option maxHeartbeats 2000000 in
theorem parseStmt_line (N : Nat) (σ : Lx) (w : World) (t : Tk) (ts : List Tk) (nl tn : Tk) (F : Nat) (nm : ByteArray) (xs : List Value) (h : At w σ t) (hch : Chain σ.T t (ts ++ [nl, tn])) (hw : ∀ u ∈ ts, Word u) (hnl : nl.k = 10)
    (hfile : σ.file = .pointer (some ⟨F, 0, none⟩)) (hF : FileAt N w F nm xs) (hlen : ts.length ≤ 1000000) (hxs : xs.length ≤ 1000000) (hpr : PrTab w) (hP : 0 < N) (hN : N ≤ σ.B) (hNF : N ≤ F) :
    Calls Tryz.prog 97 #[.pointer (some ⟨σ.B, 0, none⟩)] w fun e w' => e = .returned (.tuple #[]) ∧ At w' σ tn ∧ Kt N Stmt3 w w' ∧ ∃ L, w.heap.size ≤ L ∧ LineAt N w' σ.T L t ts ∧ FileAt N w' F nm (xs ++ [lineV L]) := by
  obtain ⟨i0, hi0, hz0, hz1, hz2⟩ := info_parts Tryz.infoStr
  obtain ⟨t1, trest, hts⟩ : ∃ t1 trest, ts ++ [nl, tn] = t1 :: trest := by
    cases ts with
    | nil => exact ⟨_, _, rfl⟩
    | cons a b => exact ⟨_, _, rfl⟩
  have hc0 : TokAt σ.T t.e t1 := by rw [hts] at hch; exact hch.1
  have H := hide h
  have HP := hide hpr
  have HC := hide hch
  have HC0 := hide hc0
  have HF := hide hF
  have HW := hide hw
  have HTS := hide hts
  have HNL := hide hnl
  clear h hpr hch hc0 hF hw hts hnl
  go_enter Tryz.func97, Tryz.ntmps97
  go_wp2_with fail
  refine (lex_at N σ _ t t1 H.out HC0.out HP.out hP hN).mono ?_
  rintro e w1 ⟨rfl, hat1, hk1⟩
  have A1 := hide hat1
  have K1 := hide hk1
  clear hat1 hk1
  unfold Tk.val
  go_wp2
  have hs1 : w.heap.size ≤ w1.heap.size := K1.out.size
  have hNw : N ≤ w.heap.size := Nat.le_trans hN (Nat.le_of_lt (by obtain ⟨q, ts, _, hx⟩ := H.out; exact hx.blk.lt))
  have hN1 : N ≤ w1.heap.size := by omega
  have c1 := Blk.new w1 153 (t.cells σ.T)
  have c2 := Blk.new (w1.alloc (Obj.cells (t.cells σ.T) 153)) 134 (Tk.pos σ.T t.s)
  have c3 := Blk.new ((w1.alloc (Obj.cells (t.cells σ.T) 153)).alloc (Obj.cells (Tk.pos σ.T t.s) 134)) 134 (Tk.pos σ.T t.e)
  have c2' := (c2.alloc (Obj.cells (Tk.pos σ.T t.e) 134)).alloc (Obj.cells #[Value.string (txtOf σ.T t)] 9)
  have c3' := c3.alloc (Obj.cells #[Value.string (txtOf σ.T t)] 9)
  have c4' : ((((w1.alloc (Obj.cells (t.cells σ.T) 153)).alloc (Obj.cells (Tk.pos σ.T t.s) 134)).alloc (Obj.cells (Tk.pos σ.T t.e) 134)).alloc (Obj.cells #[Value.string (txtOf σ.T t)] 9)).ownsRow w.heap.size 9 1 (.slice (some ⟨w1.heap.size + 1 + 1 + 1, 0, none⟩) 1 1) 1 [Value.string (txtOf σ.T t)] := by
    have := owns_new (((w1.alloc (Obj.cells (t.cells σ.T) 153)).alloc (Obj.cells (Tk.pos σ.T t.s) 134)).alloc (Obj.cells (Tk.pos σ.T t.e) 134)) w.heap.size 9 #[Value.string (txtOf σ.T t)] (by simp; omega) (by simp [maxLen])
    simpa using this
  have kk : Kt N (fun _ => False) w1 ((((w1.alloc (Obj.cells (t.cells σ.T) 153)).alloc (Obj.cells (Tk.pos σ.T t.s) 134)).alloc (Obj.cells (Tk.pos σ.T t.e) 134)).alloc (Obj.cells #[Value.string (txtOf σ.T t)] 9)) := ((((Kt.refl _ _ _).alloc hN1 _).alloc hN1 _).alloc hN1 _).alloc hN1 _
  have INV : Hid (PSInv N σ w t ts nl tn F nm xs (w1.heap.size + 1) (w1.heap.size + 1 + 1) ts.length (.slice (some ⟨w1.heap.size + 1 + 1 + 1, 0, none⟩) 1 1) ((((w1.alloc (Obj.cells (t.cells σ.T) 153)).alloc (Obj.cells (Tk.pos σ.T t.s) 134)).alloc (Obj.cells (Tk.pos σ.T t.e) 134)).alloc (Obj.cells #[Value.string (txtOf σ.T t)] 9))) := by
    refine hide ⟨[], ts, t1, trest, rfl, rfl, HTS.out, A1.out.keptT kk id id, ?_, ?_, c4', ?_, ?_⟩
    · simpa using c2'
    · simpa [lastTk] using c3'
    · exact (K1.out.mono (fun u h => Or.inl h)).trans (kk.mono (fun _ h => h.elim))
    · exact (HF.out.keptT K1.out (by decide) (by decide)).keptT kk id id
  change Code.wp _ _ _ _ ((((w1.alloc (Obj.cells (t.cells σ.T) 153)).alloc (Obj.cells (Tk.pos σ.T t.s) 134)).alloc (Obj.cells (Tk.pos σ.T t.e) 134)).alloc (Obj.cells #[Value.string (txtOf σ.T t)] 9))
  generalize ((((w1.alloc (Obj.cells (t.cells σ.T) 153)).alloc (Obj.cells (Tk.pos σ.T t.s) 134)).alloc (Obj.cells (Tk.pos σ.T t.e) 134)).alloc (Obj.cells #[Value.string (txtOf σ.T t)] 9)) = W at INV ⊢
  clear c1 c2 c3 c2' c3' c4' kk
  have hb3w : w.heap.size ≤ w1.heap.size + 1 := by omega
  generalize w1.heap.size + 1 = b3 at INV hb3w ⊢
  go_loopg [5] ts.length (fun k v5 wr => Hid (PSInv N σ w t ts nl tn F nm xs b3 (b3 + 1) k v5 wr))
  case atStart => exact INV
  case round =>
    obtain ⟨pre, rest, c, cs, hpr, hgk, hrc, hatc, hB3, hB4, hown, hkt, hF2⟩ := hrel.out
    clear hrel INV
    have hcs : ∃ d ds, cs = d :: ds ∧ TokAt σ.T c.e d := by
      have h1 := HC.out
      rw [hpr, List.append_assoc, hrc] at h1
      cases cs with
      | nil =>
        cases rest with
        | nil => simp at hrc
        | cons a b => cases b <;> simp at hrc
      | cons d ds => exact ⟨d, ds, rfl, Chain.mid h1⟩
    obtain ⟨d, ds, rfl, htd⟩ := hcs
    have HPR := hide hpr
    have HGK := hide hgk
    have HRC := hide hrc
    have HAC := hide hatc
    have HTD := hide htd
    have HB3 := hide hB3
    have HB4 := hide hB4
    have HO := hide hown
    have HK := hide hkt
    have HF2 := hide hF2
    clear hpr hgk hrc hatc htd hB3 hB4 hown hkt hF2
    go_wp2_with fail
    refine (lex_at N σ _ c d HAC.out HTD.out (HP.out.keptT HK.out hP) hP hN).mono ?_
    rintro e w2 ⟨rfl, hat2, hk2⟩
    have HA2 := hide hat2
    have HK2 := hide hk2
    clear hat2 hk2
    unfold Tk.val
    rcases Nat.eq_zero_or_pos gk with h0 | h0
    · subst h0
      have hr : c = nl ∧ d = tn ∧ ts = pre := by
        have h1 := HGK.out
        have h2 := HRC.out
        have h3 := HPR.out
        have : rest = [] := List.eq_nil_of_length_eq_zero h1
        subst this
        simp at h2 h3
        exact ⟨h2.1.symm, h2.2.1.symm, h3⟩
      obtain ⟨rfl, rfl, rfl⟩ := hr
      have hc10 : c.k = 10 := HNL.out
      rw [hc10]
      clear hc10
      have hpos := HB3.out.keptT HK2.out (by decide)
      have hpos2 := HB4.out.keptT HK2.out (by decide)
      obtain ⟨v, hfb, hfo⟩ := HF2.out.keptT HK2.out (by decide) (by decide)
      have hwsz : w.heap.size ≤ w2.heap.size := by have := HK2.out.size; have := HK.out.size; omega
      have ktot : Kt N Stmt3 w (w2.alloc (Obj.cells (c.cells σ.T) 153)) := (HK.out.trans (HK2.out.mono (fun u h => Or.inl h))).alloc hNw _
      have hpos' := hpos.alloc (Obj.cells (c.cells σ.T) 153)
      have hpos2' := hpos2.alloc (Obj.cells (c.cells σ.T) 153)
      have hfb' := hfb.alloc (Obj.cells (c.cells σ.T) 153)
      have hfo' := hfo.alloc (Obj.cells (c.cells σ.T) 153)
      have hat' : At (w2.alloc (Obj.cells (c.cells σ.T) 153)) σ d := HA2.out.keptT (Kt.alloc (Kt.refl _ (fun _ => False) _) (Nat.le_trans hNw hwsz) _) id id
      obtain ⟨rg, rcap, rfl⟩ := owns_form HO.out
      have hto' := (ownsRow_keptT HO.out HK2.out (by decide)).alloc (Obj.cells (c.cells σ.T) 153)
      have hcell : Tk.cells c σ.T = #[Value.int IntKind.i64 10, Value.int IntKind.i64 ↑(lineAt σ.T c.s), Value.int IntKind.i64 ↑(colAt σ.T c.s), Value.int IntKind.i64 ↑c.s, Value.int IntKind.i64 ↑(lineAt σ.T c.e), Value.int IntKind.i64 ↑(colAt σ.T c.e), Value.int IntKind.i64 ↑c.e, Value.string (txtOf σ.T c)] := by
        unfold Tk.cells; rw [HNL.out]
      have hwv : w.heap.size ≤ (w2.alloc (Obj.cells (c.cells σ.T) 153)).heap.size := by simp; omega
      rw [hcell] at hpos' hpos2' hfb' hfo' hat' hto' ktot hwv
      clear hcell hpos hpos2 hfb hfo
      go_wp2_with fail
      refine (isEOL_nl _).mono ?_
      rintro e w' ⟨rfl, rfl⟩
      go_wp2_with fail
      generalize w2.alloc (Obj.cells #[Value.int IntKind.i64 10, Value.int IntKind.i64 ↑(lineAt σ.T c.s), Value.int IntKind.i64 ↑(colAt σ.T c.s), Value.int IntKind.i64 ↑c.s, Value.int IntKind.i64 ↑(lineAt σ.T c.e), Value.int IntKind.i64 ↑(colAt σ.T c.e), Value.int IntKind.i64 ↑c.e, Value.string (txtOf σ.T c)] 153) = Wv at hpos' hpos2' hfb' hfo' hat' hto' ktot hwv ⊢
      obtain ⟨csB, hBB, hB16⟩ : ∃ cs, Blk Wv σ.B 155 cs ∧ cs[16]? = some (.pointer (some ⟨F, 0, none⟩)) := by
        obtain ⟨q, ts, _, hx⟩ := hat'
        exact ⟨_, hx.blk, by simp [Lx.cells, Lx.lexed, hfile]⟩
      have q16 : Wv.cell? ⟨σ.B, 16, none⟩ = some (.pointer (some ⟨F, 0, none⟩)) := hBB.cell 16 hB16
      have m1 : F ≠ σ.B := hfb'.ne hBB (by decide)
      have m2 : F ≠ b3 := hfb'.ne hpos' (by decide)
      have m3 : F ≠ b3 + 1 := hfb'.ne hpos2' (by decide)
      have q4 : Wv.cell? ⟨F, 4, none⟩ = some v := hfb'.cell 4 rfl
      have qs0 : Wv.cell? ⟨b3, 0, none⟩ = some (.int .i64 (lineAt σ.T t.s : Nat)) := hpos'.cell 0 rfl
      have qe0 : Wv.cell? ⟨b3 + 1, 0, none⟩ = some (.int .i64 (lineAt σ.T (lastTk t ts).e : Nat)) := hpos2'.cell 0 rfl
      have qs1 : Wv.cell? ⟨b3, 1, none⟩ = some (.int .i64 (colAt σ.T t.s : Nat)) := hpos'.cell 1 rfl
      have qe1 : Wv.cell? ⟨b3 + 1, 1, none⟩ = some (.int .i64 (colAt σ.T (lastTk t ts).e : Nat)) := hpos2'.cell 1 rfl
      have qs2 : Wv.cell? ⟨b3, 2, none⟩ = some (.int .i64 (t.s : Nat)) := hpos'.cell 2 rfl
      have qe2 : Wv.cell? ⟨b3 + 1, 2, none⟩ = some (.int .i64 ((lastTk t ts).e : Nat)) := hpos2'.cell 2 rfl
      have n1 := World.new_ne Wv _ q16
      have n2 := World.new_ne Wv _ q4
      have n3 := World.new_ne Wv _ qs0
      have n4 := World.new_ne Wv _ qe0
      simp only at n1 n2 n3 n4
      have ff : ∀ j, Wv.frozen? ⟨F, j, none⟩ = false := fun j => hfb'.free j
      have lF := hfb'.lt
      have lB := World.block_lt_of_cell? Wv _ q16
      have l3 := hpos'.lt
      have l4 := hpos2'.lt
      simp only at lB
      have Hpos := hide hpos'
      have Hpos2 := hide hpos2'
      have HFb := hide hfb'
      have HFo := hide hfo'
      have HAt := hide hat'
      have HTo := hide hto'
      have HKt := hide ktot
      clear hpos' hpos2' hfb' hfo' hat' hto' ktot
      obtain ⟨i1, hi1, hy0, hy1, hy2⟩ := info_parts Tryz.infoExpr
      have hm1 : xs.length + 1 ≤ maxLen := by unfold maxLen; omega
      have hm2 : (xs.length + 1) * 16 ≤ 140737488355328 := by omega
      have HBB := hide hBB
      clear hBB
      have hNv : N ≤ Wv.heap.size := Nat.le_trans hNw hwv
      change Code.wp _ (Code.region _ #[_, _, _, _, _, _, _, _, _, _, id _, _, _, _, _, _, _, _, _, _, _, _] _) _ _ _
      go_region_held3 (fun w' => w'.cell? ⟨σ.B, 16, none⟩ = some (.pointer (some ⟨F, 0, none⟩)) ∧
          w'.cell? ⟨b3, 0, none⟩ = some (.int .i64 (lineAt σ.T t.s : Nat)) ∧ w'.cell? ⟨b3, 1, none⟩ = some (.int .i64 (colAt σ.T t.s : Nat)) ∧ w'.cell? ⟨b3, 2, none⟩ = some (.int .i64 (t.s : Nat)) ∧
          w'.cell? ⟨b3 + 1, 0, none⟩ = some (.int .i64 (lineAt σ.T (lastTk t ts).e : Nat)) ∧ w'.cell? ⟨b3 + 1, 1, none⟩ = some (.int .i64 (colAt σ.T (lastTk t ts).e : Nat)) ∧ w'.cell? ⟨b3 + 1, 2, none⟩ = some (.int .i64 ((lastTk t ts).e : Nat)))
        (go_keep)
        ((refine step_append_lies _ (by rfl) _ _ _ (by rfl) N 131 i1 _ 1 16 Tryz.und_exprs hi1 hy0 hy1 hy2 rfl (by omega) v xs.length xs (by rfl) (by repeat (first | exact HFo.out | apply World.ownsRow.alloc | apply World.ownsRow.drew)) ⟨Wv.heap.size + 1, 0, none⟩ 1 1 [lineV Wv.heap.size] (by rfl) (by rfl) (news_two _ _ _ _) (by simp [Value.oneCell', lineV]) (by omega) hm1 hm2 (by simp; omega) (Wv.heap.size + 1 + 1) (by simp) ?_; intro gg cap w3 hown3 hgrow3 hat3 hlt3; have hk3 := ps_append2 _ _ HFo.out hNv hgrow3; have hLn := ((Blk.new Wv.drew _ _).alloc _).keptT (Kt.of_append ((HFo.out.drew.alloc _).alloc _) hgrow3 (by simp; omega)) (by decide); clear hgrow3 hat3 hlt3; have r16 := (HBB.out.keptT hk3 (by decide)).cell 16 hB16; have rF := HFb.out.keptT hk3 (by decide); have r4 : w3.cell? ⟨F, 4, none⟩ = some v := rF.cell 4 rfl; have rfr : ∀ j, w3.frozen? ⟨F, j, none⟩ = false := fun j => rF.free j; have rp := Hpos.out.keptT hk3 (by decide); have rp2 := Hpos2.out.keptT hk3 (by decide); have s0 : w3.cell? ⟨b3, 0, none⟩ = some (.int .i64 (lineAt σ.T t.s : Nat)) := rp.cell 0 rfl; have s1 : w3.cell? ⟨b3, 1, none⟩ = some (.int .i64 (colAt σ.T t.s : Nat)) := rp.cell 1 rfl; have s2 : w3.cell? ⟨b3, 2, none⟩ = some (.int .i64 (t.s : Nat)) := rp.cell 2 rfl; have u0 : w3.cell? ⟨b3 + 1, 0, none⟩ = some (.int .i64 (lineAt σ.T (lastTk t ts).e : Nat)) := rp2.cell 0 rfl; have u1 : w3.cell? ⟨b3 + 1, 1, none⟩ = some (.int .i64 (colAt σ.T (lastTk t ts).e : Nat)) := rp2.cell 1 rfl; have u2 : w3.cell? ⟨b3 + 1, 2, none⟩ = some (.int .i64 ((lastTk t ts).e : Nat)) := rp2.cell 2 rfl; have HK3 := hide hk3; have HOWN3 := hide hown3; have HLN := hide hLn; have HRF := hide rF; clear hk3 hown3 hLn rF rp rp2))
      all_goals go_wp2_with fail
      all_goals go_returns
      all_goals
        have kend : Kt N (fun u => u = 129 ∨ u = 131) Wv (w3.setCell ⟨F, 4, none⟩ (.slice (some ⟨gg, 0, none⟩) (xs.length + 1) cap)) := by
          refine Kt.set_blk ?_ hNF HFb.out (Or.inl rfl)
          exact HK3.out.mono (fun _ h => Or.inr h)
        have kf : Kt N (fun u => u = 129) w3 (w3.setCell ⟨F, 4, none⟩ (.slice (some ⟨gg, 0, none⟩) (xs.length + 1) cap)) := by
          refine Kt.set_blk ?_ hNF HRF.out rfl
          exact Kt.refl _ _ _
        have hFL : F ≠ Wv.heap.size := by omega
        refine ⟨rfl, HAt.out.keptT kend (by decide) (by decide), HKt.out.trans (kend.mono (fun _ h => Or.inr h)), Wv.heap.size, hwv, ⟨_, HLN.out.set_other (by simpa using hFL.symm) _, own_low (ownsRow_keptT HTo.out kend (by decide)) hNw⟩, _, HRF.out.set 4 _, ?_⟩
        have := ownsRow_keptT HOWN3.out kf (by decide)
        simpa using this
    · have hcw : Word c := by
        have h1 := HGK.out
        have h2 := HRC.out
        cases rest with
        | nil => simp at h1; omega
        | cons u rest' =>
          simp at h2
          exact h2.1 ▸ HW.out u (by rw [HPR.out]; simp)
      have f1 : (c.k == -1) = false := by rcases hcw with h | h <;> rw [h] <;> rfl
      have f2 : (c.k == -2) = false := by rcases hcw with h | h <;> rw [h] <;> rfl
      have f10 : (c.k == 10) = false := by rcases hcw with h | h <;> rw [h] <;> rfl
      have f40 : (c.k == 40) = false := by rcases hcw with h | h <;> rw [h] <;> rfl
      have HCW := hide hcw
      clear hcw
      have hNr : w.heap.size ≤ w2.heap.size := by have := HK2.out.size; have := HK.out.size; omega
      have hpl : pre.length ≤ 1000000 := by have := congrArg List.length HPR.out; simp at this; omega
      have hO2 := ownsRow_keptT HO.out HK2.out (by decide)
      have HO2 := hide hO2
      clear hO2
      go_wp2_with fail
      refine (isEOL_no _ _ f1 f2 f10).mono ?_
      rintro e w' ⟨rfl, rfl⟩
      have hm1 : pre.length + 1 + 1 ≤ maxLen := by unfold maxLen; omega
      have hm2 : (pre.length + 1 + 1) * 16 ≤ 140737488355328 := by omega
      have hm3 : ∀ (a b : Obj), w.heap.size ≤ ((w2.alloc a).alloc b).heap.size := fun a b => by simp; omega
      have hm4 : ∀ (a b : Obj), ((w2.alloc a).alloc b).heap.size = w2.heap.size + 1 + 1 := fun a b => by simp
      have hm5 : ∀ u ∈ [Value.string (txtOf σ.T c)], u.oneCell' = true := by simp [Value.oneCell']
      have M := hide (And.intro hm1 (And.intro hm2 (And.intro hm3 (And.intro hm4 hm5))))
      clear hm1 hm2 hm3 hm4 hm5
      go_wp2_with (at_builtin; refine wpList_append_lies _ rfl _ _ _ rfl w.heap.size 9 i0 _ 1 16 Tryz.und_strs hi0 hz0 hz1 hz2 rfl (by omega) _ _ _ (by rfl) ((HO2.out.alloc _).alloc _) ⟨w2.heap.size + 1, 0, none⟩ 1 1 [.string (txtOf σ.T c)] (by rfl) (by rfl) (news_two _ _ _ _) M.out.2.2.2.2 (by omega) M.out.1 M.out.2.1 (M.out.2.2.1 _ _) (w2.heap.size + 1 + 1) (M.out.2.2.2.1 _ _) ?_; intro g cap w3 hown3 hgrow3 hat3 hlt3; obtain ⟨hk3, ht3, hp3⟩ := ps_append HO2.out hNr hgrow3 (HB4.out.keptT HK2.out (by decide)); clear hgrow3 hat3 hlt3; have e4 : w3.cell? ⟨w2.heap.size, 4, none⟩ = some (.int .i64 (lineAt σ.T c.e : Nat)) := ht3.cell 4 rfl; have e5 : w3.cell? ⟨w2.heap.size, 5, none⟩ = some (.int .i64 (colAt σ.T c.e : Nat)) := ht3.cell 5 rfl; have e6 : w3.cell? ⟨w2.heap.size, 6, none⟩ = some (.int .i64 (c.e : Nat)) := ht3.cell 6 rfl; have p0 : w3.cell? ⟨b3 + 1, 0, none⟩ = some (.int .i64 (lineAt σ.T (lastTk t pre).e : Nat)) := hp3.cell 0 rfl; have p1 : w3.cell? ⟨b3 + 1, 1, none⟩ = some (.int .i64 (colAt σ.T (lastTk t pre).e : Nat)) := hp3.cell 1 rfl; have p2 : w3.cell? ⟨b3 + 1, 2, none⟩ = some (.int .i64 ((lastTk t pre).e : Nat)) := hp3.cell 2 rfl; have pf : ∀ j, w3.frozen? ⟨b3 + 1, j, none⟩ = false := fun j => hp3.free j; have HP3 := hide hp3; have HK3 := hide hk3; have HOWN3 := hide hown3; clear hp3 hk3 hown3 ht3)
      go_roundg (gk - 1)
      case measure => omega
      case rel =>
        have hr : ∃ rest', rest = c :: rest' ∧ rest' ++ [nl, tn] = d :: ds := by
          have h1 := HGK.out
          have h2 := HRC.out
          cases rest with
          | nil => simp at h1; omega
          | cons u rest' =>
            simp only [List.cons_append, List.cons.injEq] at h2
            exact ⟨rest', by rw [h2.1], h2.2⟩
        obtain ⟨rest', hr1, hr2⟩ := hr
        have hb42 := HB4.out.keptT HK2.out (by decide)
        have hN2 : w.heap.size ≤ b3 + 1 := by omega
        have kall : Kt w.heap.size (fun u => u = 9 ∨ u = 134) w2 (((w3.setCell ⟨b3 + 1, 0, none⟩ (Value.int IntKind.i64 ↑(lineAt σ.T c.e))).setCell ⟨b3 + 1, 1, none⟩ (Value.int IntKind.i64 ↑(colAt σ.T c.e))).setCell ⟨b3 + 1, 2, none⟩ (Value.int IntKind.i64 ↑c.e)) :=
          by
            refine Kt.set_blk ?_ hN2 hb42 (Or.inr rfl)
            refine Kt.set_blk ?_ hN2 hb42 (Or.inr rfl)
            refine Kt.set_blk ?_ hN2 hb42 (Or.inr rfl)
            exact HK3.out.mono (fun _ h => Or.inl h)
        have k3 : Kt w.heap.size (fun u => u = 134) w3 (((w3.setCell ⟨b3 + 1, 0, none⟩ (Value.int IntKind.i64 ↑(lineAt σ.T c.e))).setCell ⟨b3 + 1, 1, none⟩ (Value.int IntKind.i64 ↑(colAt σ.T c.e))).setCell ⟨b3 + 1, 2, none⟩ (Value.int IntKind.i64 ↑c.e)) :=
          by
            refine Kt.set_blk ?_ hN2 HP3.out rfl
            refine Kt.set_blk ?_ hN2 HP3.out rfl
            refine Kt.set_blk ?_ hN2 HP3.out rfl
            exact Kt.refl _ _ _
        have hl : lastTk t (pre ++ [c]) = c := by simp [lastTk]
        refine hide ⟨pre ++ [c], rest', d, ds, by rw [HPR.out, hr1]; simp, by have := HGK.out; rw [hr1] at this; simp at this; omega, hr2, HA2.out.keptT kall (by decide) (by decide), ?_, ?_, ?_, ?_, ?_⟩
        · have := (HB3.out.keptT HK2.out (by decide)).keptT HK3.out (by decide)
          exact ((this.set_other (by simp) _).set_other (by simp) _).set_other (by simp) _
        · rw [hl]
          exact ((HP3.out.set 0 _).set 1 _).set 2 _
        · have := ownsRow_keptT HOWN3.out k3 (by decide)
          simpa using this
        · exact (HK.out.trans (HK2.out.mono (fun u h => Or.inl h))).trans_low kall (Nat.le_refl _) hNw
        · exact (HF2.out.keptT HK2.out (by decide) (by decide)).keptT kall (by decide) (by decide)
end Go.Proofs.YtifkpibjeamfkaaGreatFmt
