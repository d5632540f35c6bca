/- Tokens; the frame by types; (*input).lex. -/
import Derived.Test.YtifkpibjeamfkaaGreatFmtL8
import Derived.Test.YtifkpibjeamfkaaGreatFmtL9
import Derived.Test.YtifkpibjeamfkaaGreatFmtL10
set_option linter.unusedVariables false
namespace Go.Proofs.YtifkpibjeamfkaaGreatFmt
open Go.RowKit Go.Proofs

/-- Old blocks below N stay; of the others only those of the types of S may turn. -/
structure Kt (N : Nat) (S : TypeId → Prop) (w w' : World) : Prop where
  below : Below N w w'
  keep : ∀ (k : Nat) (cs : Array Value) (t : TypeId) (fz : Nat × Nat), w.heap[k]? = some (Obj.cells cs t fz) → ¬ S t → w'.heap[k]? = some (Obj.cells cs t fz)

theorem Kt.refl (N : Nat) (S : TypeId → Prop) (w : World) : Kt N S w w := ⟨Below.refl _ _, fun _ _ _ _ h _ => h⟩
theorem Kt.trans {N : Nat} {S : TypeId → Prop} {a b c : World} (h : Kt N S a b) (k : Kt N S b c) : Kt N S a c :=
  ⟨h.below.trans k.below, fun i cs t fz e hn => k.keep i cs t fz (h.keep i cs t fz e hn) hn⟩
/-- A second step that leaves alone all that was there at the beginning. -/
theorem Kt.trans_low {N M : Nat} {S S' : TypeId → Prop} {a b c : World} (h : Kt N S a b) (k : Kt M S' b c) (hM : a.heap.size ≤ M) (hN : N ≤ a.heap.size) : Kt N S a c :=
  ⟨h.below.trans (k.below.mono (Nat.le_trans hN hM)), fun i cs t fz e hn => (k.below.block i (Nat.lt_of_lt_of_le (Array.getElem?_eq_some_iff.1 e).1 hM)).trans (h.keep i cs t fz e hn)⟩
theorem Kt.mono {N : Nat} {S S' : TypeId → Prop} {a b : World} (h : Kt N S a b) (hs : ∀ t, S t → S' t) : Kt N S' a b :=
  ⟨h.below, fun i cs t fz e hn => h.keep i cs t fz e (fun x => hn (hs t x))⟩
theorem Kt.low {N M : Nat} {S : TypeId → Prop} {a b : World} (h : Kt N S a b) (hm : M ≤ N) : Kt M S a b := ⟨h.below.mono hm, h.keep⟩
theorem Kt.size {N : Nat} {S : TypeId → Prop} {a b : World} (h : Kt N S a b) : a.heap.size ≤ b.heap.size := h.below.size
theorem Kt.of_kp {N : Nat} {S : TypeId → Prop} {X : Nat → Prop} {w w' : World} (h : Kp X w w') (hN : N ≤ w.heap.size) (hx : ∀ k, X k → N ≤ k) (ht : ∀ k, X k → ∀ (cs : Array Value) (t : TypeId) (fz : Nat × Nat), w.heap[k]? = some (Obj.cells cs t fz) → S t) : Kt N S w w' := by
  refine ⟨h.below hN hx, fun k cs t fz e hn => ?_⟩
  have hk : k < w.heap.size := (Array.getElem?_eq_some_iff.1 e).1
  exact (h.block k hk (fun hX => hn (ht k hX cs t fz e))).trans e
theorem Kt.drew {N : Nat} {S : TypeId → Prop} {a w : World} (h : Kt N S a w) : Kt N S a w.drew := ⟨h.below.drew, h.keep⟩
theorem Kt.drewN {N : Nat} {S : TypeId → Prop} {a w : World} (h : Kt N S a w) (n : Nat) : Kt N S a (w.drewN n) := ⟨⟨h.below.os, h.below.tape, h.below.output, h.below.size, h.below.block⟩, h.keep⟩
theorem Kt.alloc {N : Nat} {S : TypeId → Prop} {a w : World} (h : Kt N S a w) (hN : N ≤ a.heap.size) (o : Obj) : Kt N S a (w.alloc o) := by
  refine ⟨h.below.alloc (Nat.le_trans hN h.size) o, fun k cs t fz e hn => ?_⟩
  have h1 := h.keep k cs t fz e hn
  rw [Below.heap_alloc _ _ _ (Array.getElem?_eq_some_iff.1 h1).1]
  exact h1
/-- A store into a block that is new since a, or whose type is one of S. -/
theorem Kt.set {N : Nat} {S : TypeId → Prop} {a w : World} {b o : Nat} {u : Value} (h : Kt N S a w) (hb : N ≤ b) (hs : ∀ (cs : Array Value) (t : TypeId) (fz : Nat × Nat), a.heap[b]? = some (Obj.cells cs t fz) → S t) : Kt N S a (w.setCell ⟨b, o, none⟩ u) := by
  refine ⟨h.below.setCell hb u, fun k cs t fz e hn => ?_⟩
  have h1 := h.keep k cs t fz e hn
  have hne : k ≠ b := by
    rintro rfl
    exact hn (hs cs t fz e)
  rw [Below.heap_setCell _ _ _ _ hne]
  exact h1
theorem Kt.set_new {N : Nat} {S : TypeId → Prop} {a w : World} {b o : Nat} {u : Value} (h : Kt N S a w) (hb : N ≤ b) (hs : a.heap.size ≤ b) : Kt N S a (w.setCell ⟨b, o, none⟩ u) :=
  h.set hb (fun cs t fz e => by rw [Array.getElem?_eq_none hs] at e; cases e)
theorem Kt.set_blk {N : Nat} {S : TypeId → Prop} {a w : World} {b o : Nat} {u : Value} {t : TypeId} {ds : Array Value} (h : Kt N S a w) (hb : N ≤ b) (hB : Blk a b t ds) (hs : S t) : Kt N S a (w.setCell ⟨b, o, none⟩ u) :=
  h.set hb (fun cs t' fz e => by rw [hB.out] at e; injection e with e; injection e with _ e; exact e ▸ hs)
theorem Kt.grown {N : Nat} {S : TypeId → Prop} {a w w' : World} {row : Option Nat} (h : Kt N S a w) (hN : N ≤ a.heap.size) (hg : w.grownBy w' row) (hr : ∀ k, row = some k → N ≤ k ∧ (∀ (cs : Array Value) (t : TypeId) (fz : Nat × Nat), a.heap[k]? = some (Obj.cells cs t fz) → S t)) : Kt N S a w' := by
  refine ⟨h.below.grown hg (Nat.le_trans hN h.size) (fun k hk => (hr k hk).1), fun k cs t fz e hn => ?_⟩
  have h1 := h.keep k cs t fz e hn
  have hk : k < w.heap.size := (Array.getElem?_eq_some_iff.1 h1).1
  refine (hg.block k hk (fun he => ?_)).trans h1
  exact hn ((hr k he.symm).2 cs t fz e)
theorem Blk.keptT {N : Nat} {S : TypeId → Prop} {w w' : World} {b : Nat} {t : TypeId} {cs : Array Value} (h : Blk w b t cs) (k : Kt N S w w') (hn : ¬ S t) : Blk w' b t cs := ⟨k.keep _ _ _ _ h.out hn⟩
theorem ownsRow_keptT {N base : Nat} {S : TypeId → Prop} {w w' : World} {e : TypeId} {size n : Nat} {v : Value} {xs : List Value} (h : w.ownsRow base e size v n xs) (k : Kt N S w w') (hn : ¬ S e) : w'.ownsRow base e size v n xs := by
  obtain ⟨h1, h2⟩ := h
  refine ⟨h1, ?_⟩
  rcases h2 with h2 | ⟨g, cap, cur, hv, hg, hh, r⟩
  · exact Or.inl h2
  · exact Or.inr ⟨g, cap, cur, hv, hg, k.keep _ _ _ _ hh hn, r⟩

theorem LxAt.keptT {N : Nat} {S : TypeId → Prop} {w w' : World} {σ : Lx} (h : LxAt w σ) (k : Kt N S w w') (h1 : ¬ S 155) (h2 : ¬ S 5) : LxAt w' σ := by
  obtain ⟨cs, fz, e⟩ := h.dat
  refine ⟨h.blk.keptT k h1, fun j hj => ?_, h.ascii, h.hp, h.hn, h.hC, h.hT, h.hq, ⟨cs, fz, k.keep _ _ _ _ e h2⟩⟩
  rw [World.cell?_of_block (w := w) ((k.keep _ _ _ _ e h2).trans e.symm)]
  exact h.txt j hj
theorem PrTab.keptT {N : Nat} {S : TypeId → Prop} {w w' : World} (h : PrTab w) (k : Kt N S w w') (hx : 0 < N) : PrTab w' := by
  intro c hc
  obtain ⟨v, hv, hr⟩ := h c hc
  exact ⟨v, (World.cell?_of_block (w := w) (a := ⟨0, c, none⟩) (k.below.block _ hx)).trans hv, hr⟩

theorem own_low {w : World} {b b' : Nat} {e : TypeId} {size n : Nat} {v : Value} {xs : List Value} (h : w.ownsRow b e size v n xs) (hb : b' ≤ b) : w.ownsRow b' e size v n xs := by
  obtain ⟨h1, h2⟩ := h
  refine ⟨h1, ?_⟩
  rcases h2 with h2 | ⟨g, cap, cur, hv, hg, r⟩
  · exact Or.inl h2
  · exact Or.inr ⟨g, cap, cur, hv, Nat.le_trans hb hg, r⟩

/-- A token: its kind, its place. -/
structure Tk where
  k : Int
  s : Nat
  e : Nat
def Ws (T : List UInt8) (p s : Nat) : Prop := ∀ i, p ≤ i → i < s → ch T i = 32 ∨ ch T i = 9
/-- From p on the next token is this one. -/
inductive TokAt (T : List UInt8) (p : Nat) : Tk → Prop
  | eof (hp : p ≤ T.length) (hw : Ws T p T.length) : TokAt T p ⟨-1, T.length, T.length⟩
  | nl (s : Nat) (hp : p ≤ s) (hs : s < T.length) (hw : Ws T p s) (hc : ch T s = 10) : TokAt T p ⟨10, s, s + 1⟩
  | id (s e : Nat) (hp : p ≤ s) (hse : s < e) (he : e ≤ T.length) (hw : Ws T p s) (hid : ∀ i, s ≤ i → i < e → idB (ch T i) = true ∧ noCom T i) (h1 : ch T s ≠ 34) (h2 : ch T s ≠ 96) (hend : idEnd T e) : TokAt T p ⟨-3, s, e⟩
  | str (s e : Nat) (hp : p ≤ s) (hs : s < T.length) (hw : Ws T p s) (hc : ch T s = 34) (hb : StrB T (s + 1) e) : TokAt T p ⟨-4, s, e⟩
theorem TokAt.bd {T : List UInt8} {p : Nat} {t : Tk} (h : TokAt T p t) : p ≤ t.s ∧ t.s ≤ t.e ∧ t.e ≤ T.length := by
  cases h with
  | eof hp _ => exact ⟨hp, Nat.le_refl _, Nat.le_refl _⟩
  | nl s hp hs _ _ => exact ⟨hp, Nat.le_succ _, hs⟩
  | id s e hp hse he _ _ _ _ _ => exact ⟨hp, Nat.le_of_lt hse, he⟩
  | str s e hp hs _ _ hb => have := hb.lt; exact ⟨hp, by show s ≤ e; omega, this.2⟩

def txtOf (T : List UInt8) (t : Tk) : ByteArray := mkS (seg T t.s t.e)
/-- The lexer stands at a token: it is the current one. -/
def At (w : World) (σ : Lx) (t : Tk) : Prop := ∃ q ts, IsSl ts ∧ LxAt w (σ.lexed q ts t.k t.s t.e (txtOf σ.T t))

theorem At.keptT {N : Nat} {S : TypeId → Prop} {w w' : World} {σ : Lx} {t : Tk} (h : At w σ t) (k : Kt N S w w') (h1 : ¬ S 155) (h2 : ¬ S 5) : At w' σ t := by
  obtain ⟨q, ts, hs, hx⟩ := h
  exact ⟨q, ts, hs, hx.keptT k h1 h2⟩
/-- What readToken leaves, in the parser's words. -/
def Read (N : Nat) (w : World) (σ : Lx) (t : Tk) (en : Ending) (w' : World) : Prop := en = .returned (.tuple #[]) ∧ At w' σ t ∧ Kt N (fun u => u = 155) w w'

theorem readToken_tok (N : Nat) (σ : Lx) (w : World) (t : Tk) (h : LxAt w σ) (hts : IsSl σ.ts) (ht : TokAt σ.T σ.p t) (hpr : PrTab w) (hP : 0 < N) (hN : N ≤ σ.B) :
    Calls Tryz.prog 59 #[.pointer (some ⟨σ.B, 0, none⟩)] w (Read N w σ t) := by
  have hB : 0 < σ.B := by omega
  have fin : ∀ e w', Lexed w σ t.k t.s t.e (txtOf σ.T t) e w' → Read N w σ t e w' := by
    rintro e w' ⟨q, ts, he, hs, hl, hk⟩
    refine ⟨he, ⟨q, ts, hs, hl⟩, Kt.of_kp hk (Nat.le_trans hN (Nat.le_of_lt h.blk.lt)) (fun k e => e ▸ hN) (fun k e cs u fz hu => ?_)⟩
    subst e
    have hb := h.blk.out
    rw [hu] at hb
    injection hb with hb
    injection hb
  cases ht with
  | eof hp hw => exact (readToken_eof σ w h hts hw).mono fin
  | nl s hp hs hw hc => exact (readToken_p10 σ w s h hts hp hs hw hc).mono fin
  | id s e hp hse he hw hid h1 h2 hend => exact (readToken_id σ w s e h hts hp hse he hw hid h1 h2 hend hpr hB).mono fin
  | str s e hp hs hw hc hb => exact (readToken_str σ w s e h hts hp hs hw hc hb).mono fin

/-- A token as lex hands it back. -/
def Tk.val (T : List UInt8) (t : Tk) : Value :=
  .agg #[.int .i64 t.k, .int .i64 (lineAt T t.s : Nat), .int .i64 (colAt T t.s : Nat), .int .i64 (t.s : Nat), .int .i64 (lineAt T t.e : Nat), .int .i64 (colAt T t.e : Nat), .int .i64 (t.e : Nat), .string (txtOf T t)]
end Go.Proofs.YtifkpibjeamfkaaGreatFmt
