/- The lexer's endToken. -/
import Derived.Test.YtifkpibjeamfkaaGreatFmtL3
import Derived.Test.YtifkpibjeamfkaaGreatFmtS1
import Derived.Laws.BytesArg
namespace Go.Proofs.YtifkpibjeamfkaaGreatFmt
open Go.RowKit Go.Proofs

/-- The text between two places. -/
def seg (T : List UInt8) (s e : Nat) : List UInt8 := (T.drop s).take (e - s)

theorem seg_length (T : List UInt8) (s e : Nat) (h : s ≤ e) (he : e ≤ T.length) : (seg T s e).length = e - s := by
  simp [seg]; omega
theorem seg_snoc (T : List UInt8) (s e : Nat) (h : s ≤ e) (he : e < T.length) : seg T s (e + 1) = seg T s e ++ [T.getD e 0] := by
  unfold seg
  have h1 : e + 1 - s = (e - s) + 1 := by omega
  have h2 : e - s < (T.drop s).length := by simp; omega
  rw [h1, List.take_succ_eq_append_getElem h2]
  simp [List.getElem_drop, List.getD_eq_getElem?_getD, List.getElem?_eq_getElem he, show s + (e - s) = e from by omega]
theorem strOfNums_mk (l : List UInt8) : strOfNums (l.map fun c => (c.toNat : Int)) = mkS l := by
  simp [strOfNums, mkS, Function.comp_def]

/-- string(b) of a stretch of the text. -/
theorem conv_seg {w : World} (T : List UInt8) (D s e q cap : Nat) (htxt : ∀ j, j < T.length → w.cell? ⟨D, j, none⟩ = some (.int .u8 (ch T j : Nat))) (hse : s ≤ e) (he : e ≤ T.length) (hq : s < e → q = s) :
    (convert 69 9 (.slice (some ⟨D, q, none⟩) (e - s) cap)).run Tryz.prog w = .ok (.string (mkS (seg T s e))) w := by
  have hlen : ((seg T s e).map fun c => (c.toNat : Int)).length = e - s := by rw [List.length_map, seg_length T s e hse he]
  have := run_convert_bytes_arg (P := Tryz.prog) w 69 5 (by kernel_rfl) (by kernel_rfl) D q (e - s) cap ((seg T s e).map fun c => (c.toNat : Int)) hlen (fun i hi => by
    rw [hq (by omega), htxt (s + i) (by omega)]
    have hi' : i < (seg T s e).length := by rw [seg_length T s e hse he]; exact hi
    simp only [List.getD_eq_getElem?_getD, List.getElem?_map, List.getElem?_eq_getElem hi', Option.map_some, Option.getD_some]
    have h2 : s + i < T.length := by omega
    simp only [ch, List.getD_eq_getElem?_getD, List.getElem?_eq_getElem h2, Option.getD_some]
    simp [seg]) 9 (by kernel_rfl)
  rw [strOfNums_mk] at this
  exact this

theorem isComment_no (k : Int) (w : World) (h5 : (k == -5) = false) (h2 : (k == -2) = false) :
    Calls Tryz.prog 131 #[.int .i64 k] w fun e w' => e = .returned (.bool false) ∧ w = w' := by
  go_enter Tryz.func131, Tryz.ntmps131
  go_wp2
  go_ret
  exact ⟨rfl, rfl⟩
theorem isComment_yes (k : Int) (w : World) (h : k = -5 ∨ k = -2) :
    Calls Tryz.prog 131 #[.int .i64 k] w fun e w' => e = .returned (.bool true) ∧ w = w' := by
  rcases h with rfl | rfl
  all_goals
    go_enter Tryz.func131, Tryz.ntmps131
    go_wp2
    go_ret
    exact ⟨rfl, rfl⟩

/-- endToken's end, for whatever text is laid. -/
def Lx.ended (σ : Lx) (k : Int) (t : ByteArray) : Lx := { σ with kind := k, text := t, el := (lineAt σ.T σ.p : Nat), ec := (colAt σ.T σ.p : Nat), eb := (σ.p : Nat) }

theorem seg_last (T : List UInt8) (s e : Nat) (h : s < e) (he : e ≤ T.length) : seg T s e = seg T s (e - 1) ++ [T.getD (e - 1) 0] := by
  have := seg_snoc T s (e - 1) (by omega) (by omega)
  rwa [show e - 1 + 1 = e from by omega] at this
theorem ch_eq (T : List UInt8) (i n : Nat) (h : ch T i = n) (hn : n < 256) : T.getD i 0 = UInt8.ofNat n := by
  unfold ch at h
  subst h
  simp
theorem suffix_crlf (T : List UInt8) (s p : Nat) (h : s + 2 ≤ p) (he : p ≤ T.length) (hprev : ch T (p - 2) ≠ 13) : Lib.hasSuffix (seg T s p) [13, 10] = false := by
  rw [seg_last T s p (by omega) he, seg_last T s (p - 1) (by omega) (by omega)]
  have h13 : T.getD (p - 1 - 1) 0 ≠ 13 := by
    intro e
    apply hprev
    unfold ch
    rw [show p - 2 = p - 1 - 1 from by omega, e]
    rfl
  simp only [Lib.hasSuffix, List.isSuffixOf, List.reverse_append, List.reverse_cons, List.reverse_nil, List.nil_append, List.cons_append, List.isPrefixOf]
  have : ((13 : UInt8) == T.getD (p - 1 - 1) 0) = false := by simpa using fun e => h13 (by first | exact e.symm | exact e)
  simp only [this]
  simp
theorem suffix_lf (T : List UInt8) (s p : Nat) (h : s + 2 ≤ p) (he : p ≤ T.length) (hlast : ch T (p - 1) = 10) : Lib.trimSuffix (seg T s p) [10] = seg T s (p - 1) := by
  have h10 := ch_eq T (p - 1) 10 hlast (by omega)
  rw [seg_last T s p (by omega) he, h10]
  simp [Lib.trimSuffix, Lib.hasSuffix, List.isSuffixOf]

set_option maxHeartbeats 400000 in
theorem endToken_plain (σ : Lx) (s qs : Nat) (k : Int) (w : World) (h : LxAt w σ) (hts : σ.ts = .slice (some ⟨σ.D, qs, none⟩) (σ.T.length - s) (σ.C - s)) (hs : s ≤ σ.p) (hqs : s < σ.p → qs = s)
    (h5 : (k == -5) = false) (hk2 : (k == -2) = false) :
    Calls Tryz.prog 91 #[.pointer (some ⟨σ.B, 0, none⟩), .int .i64 k] w fun e w' => e = .returned (.tuple #[]) ∧ LxAt w' (σ.ended k (mkS (seg σ.T s σ.p))) ∧ Kp (fun i => i = σ.B) w w' := by
  have h2 := h.c2
  have h3 := h.c3
  rw [hts] at h3
  clear hts
  have h4 := h.c4
  have h8 := h.c8
  have h9 := h.c9
  have h10 := h.c10
  have h11 := h.c11
  have h12 := h.c12
  have h13 := h.c13
  have h14 := h.c14
  have hf := fun j => h.blk.free j
  have hp := h.hp
  have hn := h.hn
  have hC := h.hC
  have hTm := h.hT
  have key : ∀ (W : World), Blk W σ.B 155 (σ.ended k (mkS (seg σ.T s σ.p))).cells → Kp (fun i => i = σ.B) w W → LxAt W (σ.ended k (mkS (seg σ.T s σ.p))) ∧ Kp (fun i => i = σ.B) w W := fun W hb hk =>
    ⟨h.upd hk hb rfl rfl rfl rfl h.hp h.hq, hk⟩
  have hb := h.blk
  have hconv : ∀ n, (convert 69 9 (.slice (some ⟨σ.D, qs, none⟩) (σ.T.length - s - (σ.T.length - σ.p)) (σ.C - s))).run Tryz.prog ((w.setCell ⟨σ.B, 4, none⟩ (.int .i64 k)).drewN n) = .ok (.string (mkS (seg σ.T s σ.p))) ((w.setCell ⟨σ.B, 4, none⟩ (.int .i64 k)).drewN n) := fun n => by
    rw [show σ.T.length - s - (σ.T.length - σ.p) = σ.p - s from by omega]
    refine conv_seg σ.T σ.D s σ.p qs _ (fun j hj => ?_) hs hp hqs
    have := h.txt j hj
    have hk : Kp (fun i => i = σ.B) w ((w.setCell ⟨σ.B, 4, none⟩ (.int .i64 k)).drewN n) := by
      refine Kp.drewN ?_ _
      refine Kp.set ?_ (fun _ => rfl)
      exact Kp.refl _ _
    rw [World.cell?_of_block (w := w) (hk.block _ h.hD h.ne)]
    exact this
  have e1 : ((σ.T.length - s : Nat) : Int) - ((σ.T.length - σ.p : Nat) : Int) = ((σ.T.length - s - (σ.T.length - σ.p) : Nat) : Int) := by omega
  clear h
  generalize hN1 : σ.T.length - s = N1 at *
  generalize hN2 : σ.T.length - σ.p = N2 at *
  have hle : N2 ≤ N1 := by omega
  have hN1c : N1 ≤ σ.C - s := by omega
  have hN1m : N1 ≤ 1152921504606846976 := by omega
  clear e1
  have H := hide key
  clear key
  have E1 := hide hN1
  have E2 := hide hN2
  clear hN1 hN2
  go_enter Tryz.func91, Tryz.ntmps91
  go_wp2
  go_quiet (fail)
  clear hconv
  go_wp2_with (go_at_call 131; refine (isComment_no _ _ h5 hk2).mono ?_; rintro e w' ⟨rfl, rfl⟩)
  go_end0
  refine ⟨rfl, H.out _ ?_ ?_⟩
  · exact Blk.eq ((((((hb.set 4 _).drewN _).set 11 _).set 8 _).set 9 _).set 10 _) rfl
  · repeat' (first | exact Kp.refl _ _ | refine Kp.set ?_ (fun _ => rfl) | refine Kp.drewN ?_ _)
set_option maxHeartbeats 400000 in
theorem endToken_comment (σ : Lx) (s qs : Nat) (k : Int) (w : World) (h : LxAt w σ) (hts : σ.ts = .slice (some ⟨σ.D, qs, none⟩) (σ.T.length - s) (σ.C - s)) (hs : s ≤ σ.p) (hqs : s < σ.p → qs = s)
    (hk : k = -5 ∨ k = -2) (hp2 : s + 2 ≤ σ.p) (hlast : ch σ.T (σ.p - 1) = 10) (hprev : ch σ.T (σ.p - 2) ≠ 13) :
    Calls Tryz.prog 91 #[.pointer (some ⟨σ.B, 0, none⟩), .int .i64 k] w fun e w' => e = .returned (.tuple #[]) ∧ LxAt w' (σ.ended k (mkS (seg σ.T s (σ.p - 1)))) ∧ Kp (fun i => i = σ.B) w w' := by
  have h2 := h.c2
  have h3 := h.c3
  rw [hts] at h3
  clear hts
  have h4 := h.c4
  have h8 := h.c8
  have h9 := h.c9
  have h10 := h.c10
  have h11 := h.c11
  have h12 := h.c12
  have h13 := h.c13
  have h14 := h.c14
  have hf := fun j => h.blk.free j
  have hp := h.hp
  have hn := h.hn
  have hC := h.hC
  have hTm := h.hT
  have key : ∀ (W : World), Blk W σ.B 155 (σ.ended k (mkS (seg σ.T s (σ.p - 1)))).cells → Kp (fun i => i = σ.B) w W → LxAt W (σ.ended k (mkS (seg σ.T s (σ.p - 1)))) ∧ Kp (fun i => i = σ.B) w W := fun W hb hk =>
    ⟨h.upd hk hb rfl rfl rfl rfl h.hp h.hq, hk⟩
  have hb := h.blk
  have hconv : ∀ n, (convert 69 9 (.slice (some ⟨σ.D, qs, none⟩) (σ.T.length - s - (σ.T.length - σ.p)) (σ.C - s))).run Tryz.prog ((w.setCell ⟨σ.B, 4, none⟩ (.int .i64 k)).drewN n) = .ok (.string (mkS (seg σ.T s σ.p))) ((w.setCell ⟨σ.B, 4, none⟩ (.int .i64 k)).drewN n) := fun n => by
    rw [show σ.T.length - s - (σ.T.length - σ.p) = σ.p - s from by omega]
    refine conv_seg σ.T σ.D s σ.p qs _ (fun j hj => ?_) hs hp hqs
    have := h.txt j hj
    have hk : Kp (fun i => i = σ.B) w ((w.setCell ⟨σ.B, 4, none⟩ (.int .i64 k)).drewN n) := by
      refine Kp.drewN ?_ _
      refine Kp.set ?_ (fun _ => rfl)
      exact Kp.refl _ _
    rw [World.cell?_of_block (w := w) (hk.block _ h.hD h.ne)]
    exact this
  have e1 : ((σ.T.length - s : Nat) : Int) - ((σ.T.length - σ.p : Nat) : Int) = ((σ.T.length - s - (σ.T.length - σ.p) : Nat) : Int) := by omega
  clear h
  generalize hN1 : σ.T.length - s = N1 at *
  generalize hN2 : σ.T.length - σ.p = N2 at *
  have hle : N2 ≤ N1 := by omega
  have hN1c : N1 ≤ σ.C - s := by omega
  have hN1m : N1 ≤ 1152921504606846976 := by omega
  clear e1
  have H := hide key
  have HS1 := hide (suffix_crlf σ.T s σ.p hp2 hp hprev)
  have HS2 := hide (suffix_lf σ.T s σ.p hp2 hp hlast)
  clear hlast hprev
  clear key
  have E1 := hide hN1
  have E2 := hide hN2
  clear hN1 hN2
  go_enter Tryz.func91, Tryz.ntmps91
  go_wp2
  go_quiet (fail)
  clear hconv
  go_wp2_with (first | (go_at_call 110; refine (hasSuffix_any _ _ _ (by rw [mkS_size, seg_length _ _ _ hs hp]; omega)).mono ?_; rintro e w' ⟨rfl, rfl⟩; rw [mkS_list, HS1.out]) | (go_at_call 111; refine (trimSuffix_any _ _ _ (by rw [mkS_size, seg_length _ _ _ hs hp]; omega)).mono ?_; rintro e w' ⟨rfl, rfl⟩; rw [mkS_list, HS2.out]) | (go_at_call 131; refine (isComment_yes _ _ hk).mono ?_; rintro e w' ⟨rfl, rfl⟩))
  go_end0
  refine ⟨rfl, H.out _ ?_ ?_⟩
  · exact Blk.eq ((((((hb.set 4 _).drewN _).set 11 _).set 8 _).set 9 _).set 10 _) rfl
  · repeat' (first | exact Kp.refl _ _ | refine Kp.set ?_ (fun _ => rfl) | refine Kp.drewN ?_ _)
end Go.Proofs.YtifkpibjeamfkaaGreatFmt
