/- A document as lines of words: its text, its tokens; parse at a document. -/
import Derived.Test.YtifkpibjeamfkaaGreatFmtP9
import Derived.Test.YtifkpibjeamfkaaGreatFmtC9
set_option linter.unusedVariables false
namespace Go.Proofs.YtifkpibjeamfkaaGreatFmt
open Go.RowKit Go.Proofs

theorem ch_left (A B : List UInt8) (i : Nat) (h : i < A.length) : ch (A ++ B) i = ch A i := by
  simp [ch, List.getD_eq_getElem?_getD, List.getElem?_append_left h]
theorem ch_right (A B : List UInt8) (i : Nat) : ch (A ++ B) (A.length + i) = ch B i := by
  simp [ch, List.getD_eq_getElem?_getD, List.getElem?_append_right]
theorem ch_mid (A u B : List UInt8) (i : Nat) (h : i < u.length) : ch (A ++ (u ++ B)) (A.length + i) = ch u i := by
  rw [ch_right, ch_left _ _ _ h]
theorem ch_next (A u B : List UInt8) : ch (A ++ (u ++ B)) (A.length + u.length) = ch B 0 := by
  rw [ch_right]; exact ch_right u B 0
theorem seg_mid (A u B : List UInt8) : seg (A ++ (u ++ B)) A.length (A.length + u.length) = u := by
  unfold seg
  rw [show A.length + u.length - A.length = u.length from by omega]
  simp

structure IdW (u : List UInt8) : Prop where
  pos : 0 < u.length
  chars : ∀ i, i < u.length → idB (ch u i) = true ∧ noCom u i
  q1 : ch u 0 ≠ 34
  q2 : ch u 0 ≠ 96
structure StrW (u : List UInt8) : Prop where
  q : ch u 0 = 34
  body : StrB u 1 u.length
def Wd (u : List UInt8) : Prop := IdW u ∨ StrW u
theorem Wd.pos {u : List UInt8} (h : Wd u) : 0 < u.length := by
  rcases h with h | h
  · exact h.pos
  · have := h.body.lt; omega
def kindOf (u : List UInt8) : Int := if ch u 0 = 34 then -4 else -3
/-- What stands behind a word. -/
def Sep (B : List UInt8) : Prop := 0 < B.length ∧ (ch B 0 = 32 ∨ ch B 0 = 10)

theorem StrB.shift {u : List UInt8} (A B : List UInt8) {i e : Nat} (h : StrB u i e) : StrB (A ++ (u ++ B)) (A.length + i) (A.length + e) := by
  induction h with
  | fin i h hc => exact .fin _ (by simp; omega) (by rw [ch_mid _ _ _ _ h]; exact hc)
  | esc i e h hc r ih => exact .esc _ _ (by simp; omega) (by rw [ch_mid _ _ _ _ (by omega)]; exact hc) ih
  | chr i e h h1 h2 h3 r ih => exact .chr _ _ (by simp; omega) (by rw [ch_mid _ _ _ _ h]; exact h1) (by rw [ch_mid _ _ _ _ h]; exact h2) (by rw [ch_mid _ _ _ _ h]; exact h3) ih

theorem noCom_mid {A u B : List UInt8} (hB : Sep B) {i : Nat} (hi : i < u.length) (h : noCom u i) : noCom (A ++ (u ++ B)) (A.length + i) := by
  unfold noCom at h ⊢
  rw [ch_mid _ _ _ _ hi]
  rcases Nat.lt_or_ge (i + 1) u.length with h1 | h1
  · rw [show A.length + i + 1 = A.length + (i + 1) from by omega, ch_mid _ _ _ _ h1]
    exact ⟨fun ⟨_, b, c⟩ => h.1 ⟨h1, b, c⟩, fun ⟨_, b, c⟩ => h.2 ⟨h1, b, c⟩⟩
  · rw [show A.length + i + 1 = A.length + u.length from by omega, ch_next]
    rcases hB.2 with h2 | h2 <;> rw [h2] <;> exact ⟨fun ⟨_, _, c⟩ => absurd c (by omega), fun ⟨_, _, c⟩ => absurd c (by omega)⟩
theorem tok_word (A u B : List UInt8) (p : Nat) (hu : Wd u) (hB : Sep B) (hp : p ≤ A.length) (hw : Ws (A ++ (u ++ B)) p A.length) : TokAt (A ++ (u ++ B)) p ⟨kindOf u, A.length, A.length + u.length⟩ := by
  have hpos := hu.pos
  rcases hu with hu | hu
  · rw [show kindOf u = -3 from if_neg hu.q1]
    refine .id _ _ hp (by omega) (by simp only [List.length_append]; omega) hw (fun i h1 h2 => ?_) ?_ ?_ (Or.inr (Or.inl ⟨?_, ?_⟩))
    · obtain ⟨j, rfl⟩ : ∃ j, i = A.length + j := ⟨i - A.length, by omega⟩
      have hj : j < u.length := by omega
      have hc := hu.chars j hj
      exact ⟨by rw [ch_mid _ _ _ _ hj]; exact hc.1, noCom_mid hB hj hc.2⟩
    · have := ch_mid A u B 0 hpos; rw [Nat.add_zero] at this; rw [this]; exact hu.q1
    · have := ch_mid A u B 0 hpos; rw [Nat.add_zero] at this; rw [this]; exact hu.q2
    · have := hB.1; simp; omega
    · rw [ch_next]
      rcases hB.2 with h2 | h2 <;> rw [h2] <;> rfl
  · rw [show kindOf u = -4 from if_pos hu.q]
    refine .str _ _ hp (by simp; omega) hw ?_ (hu.body.shift A B)
    have := ch_mid A u B 0 hpos; rw [Nat.add_zero] at this; rw [this]; exact hu.q
theorem tok_nl (A B : List UInt8) (p : Nat) (hp : p ≤ A.length) (hw : Ws (A ++ (10 :: B)) p A.length) : TokAt (A ++ (10 :: B)) p ⟨10, A.length, A.length + 1⟩ := by
  refine .nl _ hp (by simp) hw ?_
  have := ch_right A (10 :: B) 0
  rw [Nat.add_zero] at this
  rw [this]; rfl
theorem Ws.refl (T : List UInt8) (p : Nat) : Ws T p p := fun i h1 h2 => absurd h1 (by omega)
theorem Ws.one (T : List UInt8) (p : Nat) (h : ch T p = 32) : Ws T p (p + 1) := by
  intro i h1 h2
  obtain rfl : i = p := by omega
  exact Or.inl h

/-- Tokens from a place on. -/
def Toks (T : List UInt8) (p : Nat) : List Tk → Prop
  | [] => True
  | t :: ts => TokAt T p t ∧ Chain T t ts
theorem Toks.chain {T : List UInt8} {t : Tk} {ts : List Tk} (h : Toks T t.e ts) : Chain T t ts := by
  cases ts with
  | nil => trivial
  | cons u us => exact h

/-- A line's text. -/
def lineTxt : List (List UInt8) → List UInt8
  | [] => [10]
  | [u] => u ++ [10]
  | u :: v :: r => u ++ 32 :: lineTxt (v :: r)
def docTxt : List (List (List UInt8)) → List UInt8
  | [] => []
  | l :: d => lineTxt l ++ docTxt d
def wordTks (o : Nat) : List (List UInt8) → List Tk
  | [] => []
  | u :: us => ⟨kindOf u, o, o + u.length⟩ :: wordTks (o + u.length + 1) us
def nlAt (o : Nat) (l : List (List UInt8)) : Tk := ⟨10, o + (lineTxt l).length - 1, o + (lineTxt l).length⟩
def itOf (o : Nat) (l : List (List UInt8)) : It := match wordTks o l with
  | [] => .blank (nlAt o l)
  | t :: ts => .line t ts (nlAt o l)
def docIts (o : Nat) : List (List (List UInt8)) → List It
  | [] => []
  | l :: d => itOf o l :: docIts (o + (lineTxt l).length) d
theorem lineTxt_pos (l : List (List UInt8)) : 0 < (lineTxt l).length := by
  match l with
  | [] => simp [lineTxt]
  | [u] => simp [lineTxt]
  | u :: v :: r => simp [lineTxt]; omega
theorem itOf_toks (o : Nat) (l : List (List UInt8)) : (itOf o l).toks = wordTks o l ++ [nlAt o l] := by
  unfold itOf
  cases wordTks o l <;> rfl

theorem line_toks (l : List (List UInt8)) : ∀ (A R : List UInt8) (p : Nat) (rest : List Tk), (∀ u ∈ l, Wd u) → p ≤ A.length → Ws (A ++ (lineTxt l ++ R)) p A.length → Toks (A ++ (lineTxt l ++ R)) (A.length + (lineTxt l).length) rest →
    Toks (A ++ (lineTxt l ++ R)) p (wordTks A.length l ++ nlAt A.length l :: rest) := by
  induction l with
  | nil =>
    intro A R p rest _ hp hw hr
    have h1 := tok_nl A R p hp hw
    exact ⟨h1, Toks.chain (t := nlAt A.length []) hr⟩
  | cons u us ih =>
    intro A R p rest hu hp hw hr
    cases us with
    | nil =>
      have e : lineTxt [u] ++ R = u ++ (10 :: R) := by simp [lineTxt]
      rw [e] at hw hr ⊢
      have h1 := tok_word A u (10 :: R) p (hu u (by simp)) ⟨by simp, Or.inr rfl⟩ hp hw
      have h2 := tok_nl (A ++ u) R (A.length + u.length) (by simp) (by rw [List.length_append]; exact Ws.refl _ _)
      rw [List.append_assoc, List.length_append] at h2
      have e2 : nlAt A.length [u] = ⟨10, A.length + u.length, A.length + u.length + 1⟩ := by simp [nlAt, lineTxt]; omega
      have e3 : A.length + (lineTxt [u]).length = A.length + u.length + 1 := by simp [lineTxt]; omega
      rw [e3] at hr
      refine ⟨h1, ?_⟩
      show Chain _ _ (nlAt A.length [u] :: rest)
      rw [e2]
      exact ⟨h2, Toks.chain (t := ⟨10, A.length + u.length, A.length + u.length + 1⟩) hr⟩
    | cons v r =>
      have e : lineTxt (u :: v :: r) ++ R = u ++ (32 :: (lineTxt (v :: r) ++ R)) := by simp [lineTxt]
      rw [e] at hw hr ⊢
      have h1 := tok_word A u (32 :: (lineTxt (v :: r) ++ R)) p (hu u (by simp)) ⟨by simp, Or.inl rfl⟩ hp hw
      have e4 : A ++ (u ++ (32 :: (lineTxt (v :: r) ++ R))) = (A ++ u ++ [32]) ++ (lineTxt (v :: r) ++ R) := by simp
      have e5 : (A ++ u ++ [32]).length = A.length + u.length + 1 := by simp; omega
      have e6 : A.length + (lineTxt (u :: v :: r)).length = A.length + u.length + 1 + (lineTxt (v :: r)).length := by simp [lineTxt]; omega
      have e7 : nlAt A.length (u :: v :: r) = nlAt (A.length + u.length + 1) (v :: r) := by
        have := lineTxt_pos (v :: r)
        simp [nlAt, lineTxt]; omega
      have hsp : ch (A ++ (u ++ (32 :: (lineTxt (v :: r) ++ R)))) (A.length + u.length) = 32 := by rw [ch_next]; rfl
      have hws := Ws.one _ _ hsp
      rw [e6] at hr
      rw [e4] at hr hws
      have := ih (A ++ u ++ [32]) R (A.length + u.length) rest (fun x hx => hu x (by simp at hx ⊢; exact Or.inr hx)) (by rw [e5]; omega) (by rw [e5]; exact hws) (by rw [e5]; exact hr)
      rw [e5, ← e4] at this
      refine ⟨h1, ?_⟩
      show Chain _ _ (wordTks (A.length + u.length + 1) (v :: r) ++ nlAt A.length (u :: v :: r) :: rest)
      rw [e7]
      exact Toks.chain (t := ⟨kindOf u, A.length, A.length + u.length⟩) this

theorem doc_toks (d : List (List (List UInt8))) : ∀ (A : List UInt8), (∀ l ∈ d, ∀ u ∈ l, Wd u) →
    Toks (A ++ docTxt d) A.length (itoks (docIts A.length d) ++ [⟨-1, (A ++ docTxt d).length, (A ++ docTxt d).length⟩]) := by
  induction d with
  | nil =>
    intro A _
    refine ⟨?_, trivial⟩
    have := TokAt.eof (T := A ++ docTxt []) (p := A.length) (by simp) (by simp [docTxt]; exact Ws.refl _ _)
    exact this
  | cons l d ih =>
    intro A hw
    have h1 := ih (A ++ lineTxt l) (fun x hx => hw x (by simp [hx]))
    rw [List.append_assoc, List.length_append] at h1
    have h2 := line_toks l A (docTxt d) A.length _ (hw l (by simp)) (Nat.le_refl _) (Ws.refl _ _) h1
    show Toks (A ++ (lineTxt l ++ docTxt d)) A.length ((itOf A.length l).toks ++ itoks (docIts (A.length + (lineTxt l).length) d) ++ _)
    rw [itOf_toks]
    simpa [docTxt] using h2

/-- A line in memory, by its words. -/
def LineW (N : Nat) (w : World) (L : Nat) (l : List (List UInt8)) : Prop :=
  ∃ tv a1 a2 a3 b1 b2 b3, Blk w L 136 #[nilS, nilS, nilS, .int .i64 a1, .int .i64 a2, .int .i64 a3, tv, .bool false, .int .i64 b1, .int .i64 b2, .int .i64 b3] ∧
    w.ownsRow N 9 1 tv l.length (l.map fun u => .string (mkS u))
theorem words_txt (l : List (List UInt8)) : ∀ (A R : List UInt8), (wordTks A.length l).map (fun t => txtOf (A ++ (lineTxt l ++ R)) t) = l.map mkS := by
  induction l with
  | nil => intro A R; rfl
  | cons u us ih =>
    intro A R
    cases us with
    | nil =>
      have e : lineTxt [u] ++ R = u ++ (10 :: R) := by simp [lineTxt]
      rw [e]
      simp [wordTks, txtOf, seg_mid]
    | cons v r =>
      have e : lineTxt (u :: v :: r) ++ R = u ++ (32 :: (lineTxt (v :: r) ++ R)) := by simp [lineTxt]
      have e4 : A ++ (u ++ (32 :: (lineTxt (v :: r) ++ R))) = (A ++ u ++ [32]) ++ (lineTxt (v :: r) ++ R) := by simp
      have e5 : (A ++ u ++ [32]).length = A.length + u.length + 1 := by simp; omega
      have h1 := ih (A ++ u ++ [32]) R
      rw [e5, ← e4] at h1
      rw [e]
      show txtOf _ ⟨kindOf u, A.length, A.length + u.length⟩ :: (wordTks (A.length + u.length + 1) (v :: r)).map _ = _
      rw [h1]
      simp [txtOf, seg_mid]
theorem wordTks_len (l : List (List UInt8)) : ∀ o, (wordTks o l).length = l.length := by
  induction l with
  | nil => intro o; rfl
  | cons u us ih => intro o; simp [wordTks, ih]
theorem LineAt.words {N : Nat} {w : World} {A R : List UInt8} {L : Nat} {t : Tk} {ts : List Tk} {l : List (List UInt8)} (h : LineAt N w (A ++ (lineTxt l ++ R)) L t ts) (hl : wordTks A.length l = t :: ts) : LineW N w L l := by
  obtain ⟨tv, hb, ho⟩ := h
  refine ⟨tv, _, _, _, _, _, _, hb, ?_⟩
  have e := words_txt l A R
  have e2 := wordTks_len l A.length
  rw [hl] at e e2
  have e3 : (t :: ts).map (fun u => Value.string (txtOf (A ++ (lineTxt l ++ R)) u)) = l.map (fun u => .string (mkS u)) := by
    have := congrArg (List.map Value.string) e
    simpa [Function.comp_def] using this
  rw [e3] at ho
  rw [show l.length = ts.length + 1 from by rw [← e2]; rfl]
  exact ho

def lsOf (d : List (List (List UInt8))) : List (List (List UInt8)) := d.filter (fun l => !l.isEmpty)
inductive LinesW (N : Nat) (w : World) : List Nat → List (List (List UInt8)) → Prop
  | nil : LinesW N w [] []
  | cons {L : Nat} {Ls : List Nat} {l : List (List UInt8)} {ls : List (List (List UInt8))} (h : LineW N w L l) (k : LinesW N w Ls ls) : LinesW N w (L :: Ls) (l :: ls)
theorem LinesAt.words {N : Nat} {w : World} (d : List (List (List UInt8))) : ∀ (A : List UInt8) (Ls : List Nat), LinesAt N w (A ++ docTxt d) Ls (ilines (docIts A.length d)) → LinesW N w Ls (lsOf d) := by
  induction d with
  | nil =>
    intro A Ls h
    cases h
    exact .nil
  | cons l d ih =>
    intro A Ls h
    have hsh : A ++ docTxt (l :: d) = (A ++ lineTxt l) ++ docTxt d := by simp [docTxt]
    have hih := ih (A ++ lineTxt l)
    rw [List.length_append] at hih
    change LinesAt N w (A ++ (lineTxt l ++ docTxt d)) Ls ((itOf A.length l).lines ++ ilines (docIts (A.length + (lineTxt l).length) d)) at h
    cases l with
    | nil =>
      have h' : LinesAt N w (A ++ lineTxt [] ++ docTxt d) Ls (ilines (docIts (A.length + (lineTxt []).length) d)) := by rw [List.append_assoc]; exact h
      exact hih Ls h'
    | cons u us =>
      have hit : itOf A.length (u :: us) = .line ⟨kindOf u, A.length, A.length + u.length⟩ (wordTks (A.length + u.length + 1) us) (nlAt A.length (u :: us)) := rfl
      rw [hit] at h
      generalize hL : ilines (docIts (A.length + (lineTxt (u :: us)).length) d) = L2 at h hih
      cases h with
      | cons h k =>
        rw [← List.append_assoc] at k
        exact .cons (LineAt.words h rfl) (hih _ k)

theorem docIts_ok (d : List (List (List UInt8))) : ∀ o, (∀ l ∈ d, l.length ≤ 1000000) → ∀ i ∈ docIts o d, i.ok := by
  induction d with
  | nil => intro o _ i hi; cases hi
  | cons l d ih =>
    intro o hl i hi
    rcases List.mem_cons.1 hi with rfl | hi
    · cases l with
      | nil => rfl
      | cons u us =>
        have hk : ∀ (l : List (List UInt8)) o, ∀ t ∈ wordTks o l, Word t := by
          intro l
          induction l with
          | nil => intro o t ht; cases ht
          | cons x xs ihx =>
            intro o t ht
            rcases List.mem_cons.1 ht with rfl | ht
            · show kindOf x = -3 ∨ kindOf x = -4
              unfold kindOf
              split
              · exact Or.inr rfl
              · exact Or.inl rfl
            · exact ihx _ t ht
        have hlen := hl (u :: us) (by simp)
        refine ⟨hk (u :: us) o _ (List.mem_cons_self), fun t ht => hk (u :: us) o t (List.mem_cons_of_mem _ ht), rfl, ?_⟩
        rw [wordTks_len]
        simp at hlen
        omega
    · exact ih _ (fun x hx => hl x (by simp [hx])) i hi
theorem docIts_len (d : List (List (List UInt8))) : ∀ o, (docIts o d).length = d.length := by
  induction d with
  | nil => intro o; rfl
  | cons l d ih => intro o; simp [docIts, ih]
theorem ilines_doc (d : List (List (List UInt8))) : ∀ o, (ilines (docIts o d)).length = (lsOf d).length := by
  induction d with
  | nil => intro o; rfl
  | cons l d ih =>
    intro o
    show ((itOf o l).lines ++ ilines (docIts _ d)).length = _
    rw [List.length_append, ih]
    cases l with
    | nil => simp [itOf, wordTks, It.lines, lsOf]
    | cons u us => simp [itOf, wordTks, It.lines, lsOf]; omega

/-- parse at a document. -/
theorem parse_doc (w : World) (D C : Nat) (nm : ByteArray) (d : List (List (List UInt8))) (h : TxtAt w D C (docTxt d)) (hw : ∀ l ∈ d, ∀ u ∈ l, Wd u) (hl : ∀ l ∈ d, l.length ≤ 1000000) (h0 : 0 < (lsOf d).length) (hlen : d.length ≤ 999999)
    (hpr : PrTab w) (hP : 0 < w.heap.size) :
    Calls Tryz.prog 49 #[.string nm, .slice (some ⟨D, 0, none⟩) (docTxt d).length C] w fun e w' => ∃ F Ls, e = .returned (.tuple #[.pointer (some ⟨F, 0, none⟩), .nilIface]) ∧ Below w.heap.size w w' ∧
      FileAt w.heap.size w' F nm (Ls.map lineV) ∧ LinesW w.heap.size w' Ls (lsOf d) := by
  have ht := doc_toks d [] hw
  obtain ⟨c, cs, hc⟩ := itoks_cons (docIts 0 d) ⟨-1, ([] ++ docTxt d).length, ([] ++ docTxt d).length⟩
  change Toks (docTxt d) 0 (itoks (docIts 0 d) ++ [⟨-1, (docTxt d).length, (docTxt d).length⟩]) at ht
  change itoks (docIts 0 d) ++ [⟨-1, (docTxt d).length, (docTxt d).length⟩] = c :: cs at hc
  rw [hc] at ht
  refine (parse_lines w D C (docTxt d) nm (docIts 0 d) ⟨-1, (docTxt d).length, (docTxt d).length⟩ c cs h rfl (docIts_ok d 0 hl) hc ht.1 ht.2 (by rw [ilines_doc]; exact h0) (by rw [docIts_len]; exact hlen) hpr hP).mono ?_
  rintro e w' ⟨F, Ls, he, hb, hf, hls⟩
  exact ⟨F, Ls, he, hb, hf, LinesAt.words d [] Ls hls⟩
end Go.Proofs.YtifkpibjeamfkaaGreatFmt
