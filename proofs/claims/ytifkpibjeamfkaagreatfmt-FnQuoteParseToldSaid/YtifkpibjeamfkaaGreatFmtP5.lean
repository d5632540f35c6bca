/- (*input).order at a line and at a file of lines. -/
import Derived.Test.YtifkpibjeamfkaaGreatFmtP4
import Derived.Laws.OwnMore
import Derived.OneCell
import Derived.Test.YtifkpibjeamfkaaGreatFmtT0
set_option linter.unusedVariables false
namespace Go.Proofs.YtifkpibjeamfkaaGreatFmt
open Go.RowKit Go.Proofs

/-- The blocks that may turn: the parser's own, and what is new. -/
def XF (B M : Nat) : Nat → Prop := fun k => k = B ∨ M ≤ k
/-- The two orders of a tree, as far as they have come. -/
structure Ords (M : Nat) (w : World) (B : Nat) (cs : Array Value) (pre post : Value) (xs ys : List Value) : Prop where
  size : cs.size = 20
  lt : B < M
  blk : Blk w B 155 ((cs.setIfInBounds 18 pre).setIfInBounds 19 post)
  rpre : w.ownsRow M 131 1 pre xs.length xs
  rpost : w.ownsRow M 131 1 post ys.length ys
  apart : ∀ g, pre.ownBlock = some g → post.ownBlock ≠ some g
theorem Ords.c18 {M : Nat} {w : World} {B : Nat} {cs : Array Value} {pre post : Value} {xs ys : List Value} (h : Ords M w B cs pre post xs ys) : w.cell? ⟨B, 18, none⟩ = some pre :=
  h.blk.cell 18 (by have := h.size; simp [this])
theorem Ords.c19 {M : Nat} {w : World} {B : Nat} {cs : Array Value} {pre post : Value} {xs ys : List Value} (h : Ords M w B cs pre post xs ys) : w.cell? ⟨B, 19, none⟩ = some post :=
  h.blk.cell 19 (by have := h.size; simp [this])

theorem news_one (w : World) (cs : Array Value) (t : TypeId) : ∀ (j : Nat) (u : Value), cs.toList[j]? = some u → (w.alloc (.cells cs t)).cell? ((⟨w.heap.size, 0, none⟩ : Addr).add j) = some u :=
  World.news_of_block (heap_alloc_new w (.cells cs t))

theorem Ords.addPre {M : Nat} {w w3 : World} {B : Nat} {cs : Array Value} {pre post : Value} {xs ys : List Value} (h : Ords M w B cs pre post xs ys) (hM : M ≤ w.heap.size) {o : Obj} {g cap n : Nat} {x : Value} (hg : (w.alloc o).grownBy w3 pre.ownBlock)
    (hown : w3.ownsRow M 131 1 (.slice (some ⟨g, 0, none⟩) n cap) n (xs ++ [x])) (hat : pre.ownBlock = some g ∨ g = w.heap.size + 1) :
    Ords M (w3.setCell ⟨B, 18, none⟩ (.slice (some ⟨g, 0, none⟩) n cap)) B cs (.slice (some ⟨g, 0, none⟩) n cap) post (xs ++ [x]) ys ∧ Kp (XF B M) w (w3.setCell ⟨B, 18, none⟩ (.slice (some ⟨g, 0, none⟩) n cap)) := by
  have hn : n = (xs ++ [x]).length := by have := hown.1; omega
  have hgM : M ≤ g := by have := (hown.lt g rfl).1; exact this
  have hlt := h.lt
  have hpb : ∀ k, pre.ownBlock = some k → M ≤ k := fun k e => (h.rpre.lt k e).1
  have hb3 : Blk w3 B 155 ((cs.setIfInBounds 18 pre).setIfInBounds 19 post) := (h.blk.alloc o).kept (Kp.of_grownBy hg) (fun e => by have := hpb B e.symm; omega)
  have hp3 : w3.ownsRow M 131 1 post ys.length ys := by
    refine (h.rpost.alloc o).kept hg ?_
    rcases hq : post.ownBlock with _ | k
    · exact Or.inl rfl
    · refine Or.inr (fun e => h.apart k e.symm hq)
  refine ⟨⟨h.size, h.lt, (hb3.set 18 _).eq ?_, ?_, ?_, ?_⟩, ?_⟩
  · rw [Array.setIfInBounds_comm _ _ (by decide : (18 : Nat) ≠ 19)]
    simp
    rw [Array.setIfInBounds_comm _ _ (by decide : (19 : Nat) ≠ 18)]
  · rw [hn] at hown ⊢
    exact ownsRow_setCell_other hown (by simp [Value.ownBlock]; omega) _
  · refine ownsRow_setCell_other hp3 (fun e => ?_) _
    have := (hp3.lt _ e).1
    simp at this; omega
  · intro k e hk
    simp only [Value.ownBlock, Option.some.injEq] at e
    subst e
    rcases hat with hat | hat
    · exact h.apart _ hat hk
    · have := (h.rpost.lt _ hk).2
      omega
  · refine Kp.set ?_ (fun _ => Or.inl rfl)
    exact ((Kp.refl _ w).alloc o).grown hg (fun k e _ => Or.inr (hpb k e))
theorem Ords.addPost {M : Nat} {w w3 : World} {B : Nat} {cs : Array Value} {pre post : Value} {xs ys : List Value} (h : Ords M w B cs pre post xs ys) (hM : M ≤ w.heap.size) {o : Obj} {g cap n : Nat} {x : Value} (hg : (w.alloc o).grownBy w3 post.ownBlock)
    (hown : w3.ownsRow M 131 1 (.slice (some ⟨g, 0, none⟩) n cap) n (ys ++ [x])) (hat : post.ownBlock = some g ∨ g = w.heap.size + 1) :
    Ords M (w3.setCell ⟨B, 19, none⟩ (.slice (some ⟨g, 0, none⟩) n cap)) B cs pre (.slice (some ⟨g, 0, none⟩) n cap) xs (ys ++ [x]) ∧ Kp (XF B M) w (w3.setCell ⟨B, 19, none⟩ (.slice (some ⟨g, 0, none⟩) n cap)) := by
  have hn : n = (ys ++ [x]).length := by have := hown.1; omega
  have hgM : M ≤ g := by have := (hown.lt g rfl).1; exact this
  have hlt := h.lt
  have hpb : ∀ k, post.ownBlock = some k → M ≤ k := fun k e => (h.rpost.lt k e).1
  have hb3 : Blk w3 B 155 ((cs.setIfInBounds 18 pre).setIfInBounds 19 post) := (h.blk.alloc o).kept (Kp.of_grownBy hg) (fun e => by have := hpb B e.symm; omega)
  have hp3 : w3.ownsRow M 131 1 pre xs.length xs := by
    refine (h.rpre.alloc o).kept hg ?_
    rcases hq : pre.ownBlock with _ | k
    · exact Or.inl rfl
    · exact Or.inr (fun e => h.apart k hq e.symm)
  refine ⟨⟨h.size, h.lt, (hb3.set 19 _).eq (by simp), ?_, ?_, ?_⟩, ?_⟩
  · refine ownsRow_setCell_other hp3 (fun e => ?_) _
    have := (hp3.lt _ e).1
    simp at this; omega
  · rw [hn] at hown ⊢
    exact ownsRow_setCell_other hown (by simp [Value.ownBlock]; omega) _
  · intro k e hk
    simp only [Value.ownBlock, Option.some.injEq] at hk
    subst hk
    rcases hat with hat | hat
    · exact h.apart _ e hat
    · have := (h.rpre.lt _ e).2
      omega
  · refine Kp.set ?_ (fun _ => Or.inl rfl)
    exact ((Kp.refl _ w).alloc o).grown hg (fun k e _ => Or.inr (hpb k e))

theorem XF.trans {B M : Nat} {a b c : World} (h : Kp (XF B M) a b) (k : Kp (XF B M) b c) : Kp (XF B M) a c := h.trans k

set_option maxRecDepth 100000 in
set_option maxHeartbeats 1000000 in
theorem order_line (M : Nat) (w : World) (B : Nat) (cs : Array Value) (pre post : Value) (xs ys : List Value) (L : Nat) (h : Ords M w B cs pre post xs ys) (hM : M ≤ w.heap.size) (hx : xs.length ≤ 1000002) (hy : ys.length ≤ 1000002) :
    Calls Tryz.prog 98 #[.pointer (some ⟨B, 0, none⟩), lineV L] w fun e w' => e = .returned (.tuple #[]) ∧ ∃ pre' post', Ords M w' B cs pre' post' (xs ++ [lineV L]) (ys ++ [lineV L]) ∧ Kp (XF B M) w w' := by
  obtain ⟨i0, hi0, hz0, hz1, hz2⟩ := info_parts Tryz.infoExpr
  unfold lineV
  have h18 := h.c18
  have h19 := h.c19
  have hlt : B < w.heap.size := h.blk.lt
  have hfr : ∀ j, w.frozen? ⟨B, j, none⟩ = false := fun j => h.blk.free j
  have hm1 : xs.length + 1 ≤ maxLen := by unfold maxLen; omega
  have hm2 : (xs.length + 1) * 16 ≤ 140737488355328 := by omega
  have hn1 : ys.length + 1 ≤ maxLen := by unfold maxLen; omega
  have hn2 : (ys.length + 1) * 16 ≤ 140737488355328 := by omega
  have ho : ∀ u ∈ [Value.iface 92 (.pointer (some ⟨L, 0, none⟩))], u.oneCell' = true := by simp [Value.oneCell']
  have hs : ∀ (v : World) (a : Obj), M ≤ v.heap.size → M ≤ (v.alloc a).heap.size := fun v a hv => by simp; omega
  have H := hide h
  have MM := hide (And.intro hm1 (And.intro hm2 (And.intro hn1 (And.intro hn2 (And.intro ho hs)))))
  clear h hm1 hm2 hn1 hn2 ho hs
  go_enter Tryz.func98, Tryz.ntmps98
  go_wp2_with (first
    | (at_builtin; refine wpList_append_lies _ rfl _ _ _ rfl M 131 i0 _ 1 16 Tryz.und_exprs hi0 hz0 hz1 hz2 rfl (by omega) _ _ _ (by rfl) (H.out.rpre.alloc _) ⟨w.heap.size, 0, none⟩ 1 1 [.iface 92 (.pointer (some ⟨L, 0, none⟩))] (by rfl) (by rfl) (news_one _ _ _) MM.out.2.2.2.2.1 (by omega) MM.out.1 MM.out.2.1 (MM.out.2.2.2.2.2 _ _ hM) (w.heap.size + 1) (by simp) ?_; intro g cap w3 hown3 hgrow3 hat3 hlt3; obtain ⟨hO2, hK2⟩ := H.out.addPre hM hgrow3 hown3 hat3; have hb3 := Blk.kept (H.out.blk.alloc _) (Kp.of_grownBy hgrow3) (fun e => by have := (H.out.rpre.lt B e.symm).1; have := H.out.lt; omega); have e18 : w3.cell? ⟨B, 18, none⟩ = some pre := hb3.cell 18 (by have := H.out.size; simp [this]); have e19 : w3.cell? ⟨B, 19, none⟩ = some post := hb3.cell 19 (by have := H.out.size; simp [this]); have f3 : ∀ j, w3.frozen? ⟨B, j, none⟩ = false := fun j => hb3.free j; have s3 : w3.heap.size = w.heap.size + 1 ∨ w.heap.size + 1 ≤ w3.heap.size := Or.inr (by have := hgrow3.size; simp at this; omega); clear hb3; have HO2 := hide hO2; have HK2 := hide hK2; clear hO2 hK2 hown3 hgrow3 hat3 hlt3)
    | (at_builtin; have hM4 : M ≤ (w3.setCell ⟨B, 18, none⟩ (.slice (some ⟨g, 0, none⟩) (xs.length + 1) cap)).heap.size := (by simp; omega); have hsz : (w3.setCell ⟨B, 18, none⟩ (.slice (some ⟨g, 0, none⟩) (xs.length + 1) cap)).heap.size = w3.heap.size := (by simp); generalize hW : w3.setCell ⟨B, 18, none⟩ (.slice (some ⟨g, 0, none⟩) (xs.length + 1) cap) = W at HO2 HK2 hM4 hsz ⊢; clear hW e18 e19 f3 s3; refine wpList_append_lies _ rfl _ _ _ rfl M 131 i0 _ 1 16 Tryz.und_exprs hi0 hz0 hz1 hz2 rfl (by omega) _ _ _ (by rfl) (HO2.out.rpost.alloc _) ⟨w3.heap.size, 0, none⟩ 1 1 [.iface 92 (.pointer (some ⟨L, 0, none⟩))] (by rfl) (by rfl) (by rw [← hsz]; exact news_one _ _ _) MM.out.2.2.2.2.1 (by omega) MM.out.2.2.1 MM.out.2.2.2.1 (MM.out.2.2.2.2.2 _ _ hM4) (w3.heap.size + 1) (by simp [hsz]) ?_; intro g' cap' w5 hown3 hgrow3 hat3 hlt3; rw [← hsz] at hat3; obtain ⟨hO4, hK4⟩ := HO2.out.addPost hM4 hgrow3 hown3 hat3; have hb3 := Blk.kept (HO2.out.blk.alloc _) (Kp.of_grownBy hgrow3) (fun e => by have := (HO2.out.rpost.lt B e.symm).1; have := HO2.out.lt; omega); have e19 : w5.cell? ⟨B, 19, none⟩ = some post := hb3.cell 19 (by have := HO2.out.size; simp [this]); have f3 : ∀ j, w5.frozen? ⟨B, j, none⟩ = false := fun j => hb3.free j; clear hb3; have HO4 := hide hO4; have HK4 := hide hK4; clear hO4 hK4 hown3 hgrow3 hat3 hlt3))
  go_returns
  exact ⟨rfl, _, _, HO4.out, HK2.out.trans HK4.out⟩

theorem ownsRow_kp {w w' : World} {X : Nat → Prop} {N : Nat} {e : TypeId} {size n : Nat} {v : Value} {xs : List Value} (h : w.ownsRow N e size v n xs) (k : Kp X w w') (hn : ∀ g, v.ownBlock = some g → ¬ X g) : w'.ownsRow N e size v n xs := by
  obtain ⟨h1, h2⟩ := h
  refine ⟨h1, ?_⟩
  rcases h2 with h2 | ⟨g, cap, cur, rfl, hg, hh, r⟩
  · exact Or.inl h2
  · exact Or.inr ⟨g, cap, cur, rfl, hg, (k.block g (Array.getElem?_eq_some_iff.1 hh).1 (hn g rfl)).trans hh, r⟩

def fileV (F : Nat) : Value := .iface 87 (.pointer (some ⟨F, 0, none⟩))

/-- What holds at the head of order's loop over a file's statements. -/
def OFInv (M : Nat) (w : World) (B F : Nat) (cs : Array Value) (Ls : List Nat) (k : Nat) (v51 : Value) (wr : World) : Prop :=
  ∃ a b pre post, Ls = a ++ b ∧ b.length = k ∧ v51 = .int .i64 (a.length : Nat) ∧ Ords M wr B cs pre post (fileV F :: a.map lineV) (a.map lineV) ∧ Kp (XF B M) w wr

set_option maxRecDepth 100000 in
set_option maxHeartbeats 1000000 in
theorem order_file (N : Nat) (w : World) (B F : Nat) (nm : ByteArray) (cs : Array Value) (Ls : List Nat) (h : Ords w.heap.size w B cs nilS nilS [] []) (hF : FileAt N w F nm (Ls.map lineV)) (hl0 : 0 < Ls.length) (hl : Ls.length ≤ 1000000) :
    Calls Tryz.prog 98 #[.pointer (some ⟨B, 0, none⟩), fileV F] w fun e w' => e = .returned (.tuple #[]) ∧ ∃ pre' post', Ords w.heap.size w' B cs pre' post' (fileV F :: Ls.map lineV) (Ls.map lineV ++ [fileV F]) ∧ Kp (XF B w.heap.size) w w' := by
  obtain ⟨i0, hi0, hz0, hz1, hz2⟩ := info_parts Tryz.infoExpr
  obtain ⟨v, hFb, hFo⟩ := hF
  obtain ⟨g0, cap0, rfl⟩ : ∃ g cap, v = .slice (some ⟨g, 0, none⟩) Ls.length cap := by
    rcases hFo.2 with ⟨_, h2⟩ | ⟨g, cap, cur, e, _⟩
    · rw [List.length_map] at h2; omega
    · exact ⟨g, cap, by simpa using e⟩
  have hg0 : g0 < w.heap.size := (hFo.lt g0 rfl).2
  have hgB : g0 ≠ B := by
    rcases hFo.2 with ⟨_, h2⟩ | ⟨g, cap, cur, e, _, hh, _⟩
    · rw [List.length_map] at h2; omega
    · have hb := h.blk.out
      rintro rfl
      simp only [Value.slice.injEq, Option.some.injEq, Addr.mk.injEq] at e
      rw [e.1.1, hh] at hb
      simp at hb
  have hFB : F ≠ B := hFb.ne h.blk (by decide)
  have hFl := hFb.lt
  unfold fileV
  have h18 : w.cell? ⟨B, 18, none⟩ = some (.slice none 0 0) := h.c18
  have h19 : w.cell? ⟨B, 19, none⟩ = some (.slice none 0 0) := h.c19
  have hlt : B < w.heap.size := h.blk.lt
  have hfr : ∀ j, w.frozen? ⟨B, j, none⟩ = false := fun j => h.blk.free j
  have hn1 : (Ls.length + 1) ≤ maxLen := by unfold maxLen; omega
  have hn2 : (Ls.length + 1) * 16 ≤ 140737488355328 := by omega
  have hk1 : 0 + 1 ≤ maxLen := by unfold maxLen; omega
  have ho : ∀ u ∈ [Value.iface 87 (.pointer (some ⟨F, 0, none⟩))], u.oneCell' = true := by simp [Value.oneCell']
  have H := hide h
  have HFb := hide hFb
  have HFo := hide hFo
  have MM := hide (And.intro hn1 (And.intro hn2 (And.intro hk1 ho)))
  clear h hn1 hn2 hk1 ho hFb hFo
  go_enter Tryz.func98, Tryz.ntmps98
  go_wp2_with (at_builtin; refine wpList_append_lies _ rfl _ _ _ rfl w.heap.size 131 i0 _ 1 16 Tryz.und_exprs hi0 hz0 hz1 hz2 rfl (by omega) _ _ _ (by rfl) (H.out.rpre.alloc _) ⟨w.heap.size, 0, none⟩ 1 1 [.iface 87 (.pointer (some ⟨F, 0, none⟩))] (by rfl) (by rfl) (news_one _ _ _) MM.out.2.2.2 (by omega) MM.out.2.2.1 (by simp) (by simp) (w.heap.size + 1) (by simp) ?_; intro g cap w3 hown3 hgrow3 hat3 hlt3; obtain ⟨hO2, hK2⟩ := H.out.addPre (Nat.le_refl _) hgrow3 hown3 hat3; have hKg := (Kp.refl (fun _ => False) w).alloc (Obj.cells #[Value.iface 87 (.pointer (some ⟨F, 0, none⟩))] 131); have hb3 := Blk.kept (H.out.blk.alloc (Obj.cells #[Value.iface 87 (.pointer (some ⟨F, 0, none⟩))] 131)) (Kp.of_grownBy hgrow3) (fun e => by cases e); have hF3 := Blk.kept (HFb.out.alloc (Obj.cells #[Value.iface 87 (.pointer (some ⟨F, 0, none⟩))] 131)) (Kp.of_grownBy hgrow3) (fun e => by cases e); have e18 : w3.cell? ⟨B, 18, none⟩ = some (.slice none 0 0) := hb3.cell 18 (by have := H.out.size; simp [this, nilS]); have e4 : w3.cell? ⟨F, 4, none⟩ = some (.slice (some ⟨g0, 0, none⟩) Ls.length cap0) := hF3.cell 4 rfl; have f3 : ∀ j, w3.frozen? ⟨B, j, none⟩ = false := fun j => hb3.free j; clear hb3 hKg hF3; have HO2 := hide hO2; have HK2 := hide hK2; clear hO2 hK2 hown3 hgrow3 hat3 hlt3)
  generalize hW : w3.setCell ⟨B, 18, none⟩ (.slice (some ⟨g, 0, none⟩) 1 cap) = W at HO2 HK2 ⊢
  clear hW e18 e4 f3
  go_loopg [51] Ls.length (fun k v51 wr => Hid (OFInv w.heap.size w B F cs Ls k v51 wr))
  case atStart => exact hide ⟨[], Ls, _, _, rfl, rfl, rfl, HO2.out, HK2.out⟩
  case round =>
    obtain ⟨a, b, pre, post, hab, hbl, rfl, hO, hK⟩ := hrel.out
    clear hrel
    have hgl : a.length + b.length = Ls.length := by have := congrArg List.length hab; simpa using this.symm
    have HO := hide hO
    have HK := hide hK
    clear hO hK HO2 HK2
    have hwM : w.heap.size ≤ wr.heap.size := HK.out.size
    rcases b with _ | ⟨L, b⟩
    · have hge : ((a.length : Int) < (Ls.length : Int)) = False := by simp at hgl; simp; omega
      have hal : Ls = a := by simpa using hab
      have e18 := HO.out.c18
      have e19 := HO.out.c19
      have f3 : ∀ j, wr.frozen? ⟨B, j, none⟩ = false := fun j => HO.out.blk.free j
      have HAL := hide hal
      have hml : (a.map lineV).length + 1 ≤ maxLen := by rw [List.length_map, ← hal]; exact MM.out.1
      have hmb : ((a.map lineV).length + 1) * 16 ≤ 140737488355328 := by rw [List.length_map, ← hal]; exact MM.out.2.1
      have hms : w.heap.size ≤ (wr.alloc (Obj.cells #[Value.iface 87 (.pointer (some ⟨F, 0, none⟩))] 131)).heap.size := by simp; omega
      have M2 := hide (And.intro hml (And.intro hmb hms))
      clear hal hab hml hmb hms
      go_wp2_with (at_builtin; refine wpList_append_lies _ rfl _ _ _ rfl w.heap.size 131 i0 _ 1 16 Tryz.und_exprs hi0 hz0 hz1 hz2 rfl (by omega) _ _ _ (by rfl) (HO.out.rpost.alloc _) ⟨wr.heap.size, 0, none⟩ 1 1 [.iface 87 (.pointer (some ⟨F, 0, none⟩))] (by rfl) (by rfl) (news_one _ _ _) MM.out.2.2.2 (by omega) M2.out.1 M2.out.2.1 M2.out.2.2 (wr.heap.size + 1) (by simp) ?_; intro g' cap' w5 hown3 hgrow3 hat3 hlt3; obtain ⟨hO4, hK4⟩ := HO.out.addPost hwM hgrow3 hown3 hat3; have hb3 := Blk.kept (HO.out.blk.alloc _) (Kp.of_grownBy hgrow3) (fun e => by have := (HO.out.rpost.lt B e.symm).1; omega); have e19 : w5.cell? ⟨B, 19, none⟩ = some post := hb3.cell 19 (by have := HO.out.size; simp [this]); have f3 : ∀ j, w5.frozen? ⟨B, j, none⟩ = false := fun j => hb3.free j; clear hb3; have HO4 := hide hO4; have HK4 := hide hK4; clear hO4 hK4 hown3 hgrow3 hat3 hlt3)
      go_returns
      have h1 := HO4.out
      have h2 := HK.out.trans HK4.out
      rw [List.length_map] at h1 h2
      rw [← HAL.out] at h1 h2 ⊢
      exact ⟨rfl, _, _, h1, h2⟩
    · have hlt2 : (a.length : Int) < (Ls.length : Int) := by simp at hgl; omega
      have h0 : (0 : Int) ≤ (a.length : Int) := by omega
      have hfo2 : wr.ownsRow N 131 1 (.slice (some ⟨g0, 0, none⟩) Ls.length cap0) Ls.length (Ls.map lineV) := by
        have h1 := ownsRow_kp HFo.out HK.out (fun g e => by
          simp only [Value.ownBlock, Option.some.injEq] at e
          subst e
          rintro (e | e) <;> omega)
        rw [List.length_map] at h1
        exact h1
      have hel : wr.cell? ⟨g0, a.length, none⟩ = some (lineV L) := by
        rw [hfo2.cellAt a.length (by omega), hab]
        simp
      unfold lineV at hel
      have hxs : (fileV F :: a.map lineV).length ≤ 1000002 := by simp; simp at hgl; omega
      have hys : (a.map lineV).length ≤ 1000002 := by simp; simp at hgl; omega
      clear hfo2
      have HAB := hide hab
      clear hab
      go_wp2_with fail
      refine (order_line w.heap.size wr B cs pre post (fileV F :: a.map lineV) (a.map lineV) L HO.out hwM hxs hys).mono ?_
      rintro e w2 ⟨rfl, pre2, post2, hO2, hK2⟩
      have HO2 := hide hO2
      have HK2 := hide hK2
      clear hO2 hK2
      go_wp2_with fail
      go_roundg b.length
      case measure => simp at hbl; omega
      case rel =>
        refine hide ⟨a ++ [L], b, pre2, post2, by rw [HAB.out]; simp, rfl, ?_, ?_, HK.out.trans HK2.out⟩
        · simp
        · simpa using HO2.out
end Go.Proofs.YtifkpibjeamfkaaGreatFmt
