/- What Quote writes, as a list: plain facts; UnquoteChar in those words. -/
import Derived.Test.YtifkpibjeamfkaaGreatFmtQ3
import Derived.Test.YtifkpibjeamfkaaGreatFmtQ4
import Derived.Test.YtifkpibjeamfkaaGreatFmtQ5
set_option linter.unusedVariables false
namespace Go.Proofs.YtifkpibjeamfkaaGreatFmt
open Go.RowKit Go.Proofs

theorem idx_cons (c b : UInt8) (l : List UInt8) : Lib.indexByte (c :: l) b = if c == b then 0 else if Lib.indexByte l b == -1 then -1 else Lib.indexByte l b + 1 := rfl
theorem idx_none (l : List UInt8) (b : UInt8) (h : ∀ c ∈ l, c ≠ b) : Lib.indexByte l b = -1 := by
  induction l with
  | nil => rfl
  | cons c l ih =>
    rw [idx_cons]
    have h1 : (c == b) = false := by simp [h c (by simp)]
    rw [h1, ih (fun x hx => h x (by simp [hx]))]
    rfl
theorem idx_app (l r : List UInt8) (b : UInt8) (h : ∀ c ∈ l, c ≠ b) (hr : 0 ≤ Lib.indexByte r b) : Lib.indexByte (l ++ r) b = l.length + Lib.indexByte r b := by
  induction l with
  | nil => simp
  | cons c l ih =>
    rw [List.cons_append]
    rw [idx_cons]
    have h1 : (c == b) = false := by simp [h c (by simp)]
    have h2 := ih (fun x hx => h x (by simp [hx]))
    have h3 : (Lib.indexByte (l ++ r) b == -1) = false := by simp only [beq_eq_false_iff_ne]; omega
    rw [h1, h3, h2]
    simp only [Bool.false_eq_true, if_false, List.length_cons]
    omega
theorem idx_in (l : List UInt8) (b : UInt8) (h : b ∈ l) : 0 ≤ Lib.indexByte l b ∧ Lib.indexByte l b < l.length := by
  induction l with
  | nil => simp at h
  | cons c l ih =>
    rw [idx_cons]
    by_cases h1 : c = b
    · have : (c == b) = true := by simp [h1]
      rw [this]; simp
    · have h1' : (c == b) = false := by simp [h1]
      have hl : b ∈ l := by
        rcases List.mem_cons.1 h with h2 | h2
        · exact absurd h2.symm h1
        · exact h2
      have := ih hl
      have h3 : (Lib.indexByte l b == -1) = false := by simp only [beq_eq_false_iff_ne]; omega
      rw [h1', h3]
      simp only [Bool.false_eq_true, if_false, List.length_cons]
      omega

theorem escC_plain (c : UInt8) (h : ¬ (c = 34 ∨ c = 92)) : escC c = [c] := by unfold escC; rw [if_neg h]
theorem escC_esc (c : UInt8) (h : c = 34 ∨ c = 92) : escC c = [92, c] := by unfold escC; rw [if_pos h]
theorem escL_cons (c : UInt8) (l : List UInt8) : escL (c :: l) = escC c ++ escL l := rfl
theorem escL_app (a b : List UInt8) : escL (a ++ b) = escL a ++ escL b := by simp [escL]
theorem escL_plain (l : List UInt8) (h : ∀ c ∈ l, ¬ (c = 34 ∨ c = 92)) : escL l = l := by
  induction l with
  | nil => rfl
  | cons c l ih => rw [escL_cons, escC_plain c (h c (by simp)), ih (fun x hx => h x (by simp [hx]))]; rfl
/-- Either nothing is escaped, or there is a first one. -/
theorem esc_cases (l : List UInt8) : (∀ c ∈ l, ¬ (c = 34 ∨ c = 92)) ∨ ∃ pre c post, l = pre ++ c :: post ∧ (∀ x ∈ pre, ¬ (x = 34 ∨ x = 92)) ∧ (c = 34 ∨ c = 92) := by
  induction l with
  | nil => exact Or.inl (by simp)
  | cons c l ih =>
    by_cases h : c = 34 ∨ c = 92
    · exact Or.inr ⟨[], c, l, rfl, by simp, h⟩
    · rcases ih with h1 | ⟨pre, d, post, rfl, h2, h3⟩
      · left
        intro x hx
        rcases List.mem_cons.1 hx with rfl | hx
        · exact h
        · exact h1 x hx
      · right
        refine ⟨c :: pre, d, post, rfl, ?_, h3⟩
        intro x hx
        rcases List.mem_cons.1 hx with rfl | hx
        · exact h
        · exact h2 x hx
/-- Where the first quote behind the opening one stands, and that a sign is escaped ahead of it. -/
structure Cut (l : List UInt8) (e : Nat) : Prop where
  idx : Lib.indexByte (escL l ++ [34]) 34 = (e : Int)
  lt : e < (escL l ++ [34]).length
theorem cut_plain (l : List UInt8) (h : ∀ c ∈ l, ¬ (c = 34 ∨ c = 92)) : Cut l l.length := by
  have e := escL_plain l h
  refine ⟨?_, ?_⟩
  · rw [e, idx_app l [34] 34 (fun c hc hx => h c hc (Or.inl hx)) (by decide)]
    have : Lib.indexByte [34] 34 = 0 := by decide
    rw [this]; simp
  · rw [e]; simp
theorem cut_esc (l pre post : List UInt8) (c : UInt8) (hl : l = pre ++ c :: post) (hp : ∀ x ∈ pre, ¬ (x = 34 ∨ x = 92)) (hc : c = 34 ∨ c = 92) : ∃ e, Cut l e ∧ (92 : UInt8) ∈ (quoteL l).take (e + 2) := by
  have he : escL l ++ [34] = (pre ++ [92]) ++ (c :: (escL post ++ [34])) := by
    rw [hl, escL_app, escL_plain pre hp, escL_cons, escC_esc c hc]; simp
  have hin := idx_in (c :: (escL post ++ [34])) 34 (by simp)
  have ha : Lib.indexByte (escL l ++ [34]) 34 = (pre ++ [92]).length + Lib.indexByte (c :: (escL post ++ [34])) 34 := by
    rw [he]
    refine idx_app _ _ _ ?_ hin.1
    intro x hx
    rcases List.mem_append.1 hx with hx | hx
    · exact fun h => hp x hx (Or.inl h)
    · rw [List.mem_singleton] at hx; subst hx; decide
  generalize hd : Lib.indexByte (c :: (escL post ++ [34])) 34 = d at hin ha
  refine ⟨(pre ++ [92]).length + d.toNat, ⟨by rw [ha]; omega, ?_⟩, ?_⟩
  · rw [he]; simp only [List.length_append, List.length_cons] at hin ⊢; omega
  · have hq : quoteL l = (34 :: (pre ++ [92])) ++ (c :: (escL post ++ [34])) := by unfold quoteL; rw [he]; simp
    rw [hq, List.take_append]
    refine List.mem_append.2 (Or.inl ?_)
    rw [List.take_of_length_le (by simp; omega)]
    simp
theorem unqC (t : ByteArray) (c : UInt8) (r : List UInt8) (w : World) (h1 : c.toNat ≤ 126) (ht : bsl t = escC c ++ r) :
    Calls Tryz.prog 168 #[.string t, .int .u8 34] w fun e w' => e = .returned (.tuple #[.int .i32 (c.toNat : Nat), .bool false, .string (mkS r), .nilIface]) ∧ ∃ q, w' = w.drewN q := by
  have hl := bsl_len t
  by_cases hc : c = 34 ∨ c = 92
  · rw [escC_esc c hc] at ht
    have hs : t.size = r.length + 2 := by rw [← hl, ht]; simp
    have hx : t.extract 2 t.size = mkS r := bsl_inj' (by rw [bsl_ext, ht, bsl_mk]; simp [hs])
    have h := unqChar_esc t c.toNat w (by omega) (by rw [bt_ch, ht]; rfl) (by rw [bt_ch, ht]; rfl) (by
      rcases hc with rfl | rfl
      · exact Or.inl rfl
      · exact Or.inr rfl)
    rw [hx] at h
    exact h
  · rw [escC_plain c hc] at ht
    have hs : t.size = r.length + 1 := by rw [← hl, ht]; simp
    have hx : t.extract 1 t.size = mkS r := bsl_inj' (by rw [bsl_ext, ht, bsl_mk]; simp [hs])
    have hb : bt t 0 = c.toNat := by rw [bt_ch, ht]; rfl
    have n1 : c.toNat ≠ 34 := fun h => hc (Or.inl (UInt8.toNat_inj.1 (by rw [h]; rfl)))
    have n2 : c.toNat ≠ 92 := fun h => hc (Or.inr (UInt8.toNat_inj.1 (by rw [h]; rfl)))
    have h := unqChar_plain t w (by omega) (by omega) (by omega) (by omega)
    rw [hx, hb] at h
    exact h

theorem below_drewN {B : Nat} {a w : World} (h : Below B a w) (n : Nat) : Below B a (w.drewN n) := ⟨h.os, h.tape, h.output, h.size, h.block⟩

theorem own_drewN {N : Nat} {e : TypeId} {size n : Nat} {v : Value} {xs : List Value} {w : World} (h : w.ownsRow N e size v n xs) (q : Nat) : (w.drewN q).ownsRow N e size v n xs := by
  induction q with
  | zero => exact h
  | succ q ih => exact ih

theorem a7_of {t : ByteArray} (h : Pr (bsl t)) : A7 t := fun c hc => by have := h c hc; omega
end Go.Proofs.YtifkpibjeamfkaaGreatFmt
