/-
  The statement FnRepeated: a second module statement, or a second go statement, is refused by Parse, whatever the content of the file, with blocks or with a line each.
  Conditions: none of ours; the row lists unicode.properties, tied to the program's text (given); bytes.asciiSpace and strings.asciiSpace are open (any values); fmt's texts are told by the kit's own Lean function.
-/
import Derived.Test.YtifkpibjeamfkaaGreatFmtZ05
import Derived.Test.YtifkpibjeamfkaaGreatFmtZ51
import Derived.Test.YtifkpibjeamfkaaGreatFmtCards
import Derived.Test.YtifkpibjeamfkaaGreatFmtTie
import Derived.Carry
import Derived.Deep.Slices
import Derived.Deep.Strs
set_option linter.unusedVariables false
namespace Go.Proofs.YtifkpibjeamfkaaGreatFmt
open Go.ChangeShapes Go.WideShapes Go.ChangeAt Go.RowKit Go.Kit
open Go.ChangeMaps (open_string shut_string)
open Go.Extern.Stop Go.Stop Go.Extern
set_option maxRecDepth 100000 in
theorem optab_of_shaped {w : World} {g : Nat} {t : TypeId} {zero : Array Value} (h : w.ShapedOpen Tryz.prog) (hg : g < Tryz.prog.globals.size) (h0 : ((begin Tryz.prog (fun _ _ => 0) default).world.heap[g]?).bind Obj.row? = some (zero, t)) (hz : zero.size = 256)
    (hb : Tryz.prog.buildable t = true) {ts : List TypeId} (hc : Tryz.prog.cellTypes Tryz.prog.depth t = some ts) (htl : ts.length = 256) (htu : ∀ u ∈ ts, u = 5) : ∃ f : Nat → Int, OpTab w g f ∧ (∀ c, 0 ≤ f c ∧ f c < 256) ∧ g < w.heap.size := by
  obtain ⟨cs, hh, hs, hr⟩ := h.1 g zero t hg h0
  obtain ⟨ts', hts, _, hall⟩ := hr hb
  rw [hc] at hts
  obtain rfl := Option.some.inj hts
  have hlt : g < w.heap.size := (Array.getElem?_eq_some_iff.1 hh).1
  have hone : ∀ i, i < 256 → ∃ m : Int, w.cell? ⟨g, i, none⟩ = some (.int .u8 m) ∧ 0 ≤ m ∧ m < 256 := by
    intro i hi
    have h1 : i < cs.size := by omega
    obtain ⟨u, hu', hok⟩ := hall i cs[i] (by simp [h1])
    obtain rfl : u = 5 := htu u (List.mem_of_getElem? hu')
    have hcell : w.cell? ⟨g, i, none⟩ = some cs[i] := by simp [World.cell?, hh, h1]
    unfold Cell.ok at hok
    rw [show Tryz.prog.underlying 5 = some (.int .u8) from by kernel_rfl] at hok
    cases hv : cs[i] <;> rw [hv] at hok <;> simp at hok
    case int k' n =>
      obtain ⟨rfl, hk⟩ := hok
      have h2 : IntKind.u8.min ≤ n ∧ n ≤ IntKind.u8.max := by simpa [IntKind.has] using hk
      have e1 : IntKind.u8.min = 0 := rfl
      have e2 : IntKind.u8.max = 255 := rfl
      rw [e1, e2] at h2
      exact ⟨n, by rw [hcell, hv], h2.1, by omega⟩
  obtain ⟨f, hf⟩ := Go.Deep.choose_lt (α := Int) (p := fun i m => w.cell? ⟨g, i, none⟩ = some (.int .u8 m) ∧ 0 ≤ m ∧ m < 256) hone
  refine ⟨fun c => if c < 256 then f c else 0, fun c hc => ?_, fun c => ?_, hlt⟩
  · show w.cell? ⟨g, c, none⟩ = some (.int .u8 (if c < 256 then f c else 0))
    rw [if_pos hc]
    exact (hf c hc).1
  · show 0 ≤ (if c < 256 then f c else 0) ∧ (if c < 256 then f c else 0) < 256
    split
    · rename_i hc
      exact (hf c hc).2
    · omega
theorem beginB : ((begin Tryz.prog (fun _ _ => 0) default).world.heap[2]?).bind Obj.row? = some (Array.replicate 256 (.int .u8 0), 184) := by kernel_rfl
theorem beginS : ((begin Tryz.prog (fun _ _ => 0) default).world.heap[4]?).bind Obj.row? = some (Array.replicate 256 (.int .u8 0), 184) := by kernel_rfl
theorem ctU8 : Tryz.prog.cellTypes Tryz.prog.depth 184 = some (List.replicate 256 5) := by kernel_rfl
theorem buU8 : Tryz.prog.buildable 184 = true := by kernel_rfl
theorem len2 {α : Type} {l : List α} (h : l.length = 2) : ∃ x0 x1, l = [x0, x1] := by
  match l, h with
  | [x0, x1], _ => exact ⟨x0, x1, rfl⟩
theorem len3 {α : Type} {l : List α} (h : l.length = 3) : ∃ x0 x1 x2, l = [x0, x1, x2] := by
  match l, h with
  | [x0, x1, x2], _ => exact ⟨x0, x1, x2, rfl⟩
theorem len4 {α : Type} {l : List α} (h : l.length = 4) : ∃ x0 x1 x2 x3, l = [x0, x1, x2, x3] := by
  match l, h with
  | [x0, x1, x2, x3], _ => exact ⟨x0, x1, x2, x3, rfl⟩
theorem len9 {α : Type} {l : List α} (h : l.length = 9) : ∃ x0 x1 x2 x3 x4 x5 x6 x7 x8, l = [x0, x1, x2, x3, x4, x5, x6, x7, x8] := by
  match l, h with
  | [x0, x1, x2, x3, x4, x5, x6, x7, x8], _ => exact ⟨x0, x1, x2, x3, x4, x5, x6, x7, x8, rfl⟩
theorem list_of {α : Type} {P : Nat → α → Prop} : ∀ (n : Nat), (∀ i, i < n → ∃ x, P i x) → ∃ l : List α, l.length = n ∧ ∀ i x, l[i]? = some x → P i x
  | 0, _ => ⟨[], rfl, fun i x h => by simp at h⟩
  | n + 1, h => by
    obtain ⟨l, hl, hp⟩ := list_of n (fun i hi => h i (by omega))
    obtain ⟨x, hx⟩ := h n (by omega)
    refine ⟨l ++ [x], by simp [hl], fun i y hy => ?_⟩
    rcases Nat.lt_or_ge i l.length with hi | hi
    · rw [List.getElem?_append_left hi] at hy
      exact hp i y hy
    · rw [List.getElem?_append_right hi] at hy
      have h0 : i - l.length = 0 := by
        have := (List.getElem?_eq_some_iff.1 hy).1
        simpa using this
      rw [h0] at hy
      obtain rfl : i = n := by omega
      simp at hy
      exact hy ▸ hx
/-- A struct's fields: types and places. -/
noncomputable def fieldsOf (t : TypeId) : Option (Array (TypeId × Nat)) := (Tryz.prog.underlying t).map fun d => match d with
  | .struct fs => fs.map fun f => (f.type, f.offset)
  | _ => #[]
section
variable {H : Type} {enc : TypeId × Value → H} {W : World}
abbrev TrdA (enc : TypeId × Value → H) (W : World) (n : Nat) (t : TypeId) (cs : List Value) (y : DataW H × List MemPlace) : Prop := DataW.trod enc Tryz.prog W 0 (fun _ => true) true n t cs = some y
theorem fields_of {o : Option TypeDesc} {l : Array (TypeId × Nat)} (hl : (o.map fun d => match d with
    | .struct fs => fs.map fun f => (f.type, f.offset)
    | _ => #[]) = some l) (h0 : 0 < l.size) : ∃ fs : Array Field, o = some (.struct fs) ∧ (fs.map fun f => (f.type, f.offset)) = l := by
  cases o with
  | none => cases hl
  | some d =>
    simp only [Option.map_some, Option.some.injEq] at hl
    cases d with
    | struct fs => exact ⟨fs, rfl, hl⟩
    | _ => subst hl; simp at h0
theorem fields_ex {t : TypeId} {l : Array (TypeId × Nat)} (hl : fieldsOf t = some l) (h0 : 0 < l.size) : ∃ fs : Array Field, Tryz.prog.underlying t = some (.struct fs) ∧ (fs.map fun f => (f.type, f.offset)) = l := by
  unfold fieldsOf at hl
  exact fields_of hl h0
theorem trod_at {t : TypeId} {l : Array (TypeId × Nat)} (hl : fieldsOf t = some l) (h0 : 0 < l.size) {n : Nat} {cs : List Value} {y : DataW H × List MemPlace} (h : TrdA enc W n t cs y) :
    cs.length = Tryz.prog.cellsOf t ∧ ∀ (i : Nat) (p : TypeId × Nat), l[i]? = some p → ∃ m z, TrdA enc W m p.1 ((cs.drop p.2).take (Tryz.prog.cellsOf p.1)) z := by
  obtain ⟨fs, hd, he⟩ := fields_ex hl h0
  · obtain ⟨xs, m, _, rfl, hlen, hxs, hf⟩ := DataW.trod_struct hd h
    refine ⟨hlen, fun i p hp => ?_⟩
    rw [← he] at hp
    obtain ⟨f, h1, h2⟩ : ∃ f, fs[i]? = some f ∧ (f.type, f.offset) = p := by
      rw [Array.getElem?_map] at hp
      exact Option.map_eq_some_iff.1 hp
    subst h2
    have h3 := hf i f h1
    have hi : i < xs.length := by rw [hxs]; exact (Array.getElem?_eq_some_iff.1 h1).1
    rw [List.getElem?_eq_getElem hi] at h3
    exact ⟨m, _, h3⟩
theorem trod_fld {t : TypeId} {l : Array (TypeId × Nat)} (hl : fieldsOf t = some l) (h0 : 0 < l.size) {n : Nat} {cs : List Value} {y : DataW H × List MemPlace} (h : TrdA enc W n t cs y) (i : Nat) (t' : TypeId) (o k : Nat) (hi : l[i]? = some (t', o)) (hk : Tryz.prog.cellsOf t' = k) :
    ∃ m z, TrdA enc W m t' ((cs.drop o).take k) z := by
  obtain ⟨m, z, h1⟩ := (trod_at hl h0 h).2 i (t', o) hi
  refine ⟨m, z, ?_⟩
  rw [← hk]
  exact h1
theorem str_cell {n : Nat} {c : Value} {y : DataW H × List MemPlace} (h : TrdA enc W n 9 [c] y) : ∃ l : List UInt8, c = .string (mkS l) := by
  obtain ⟨s, e, _⟩ := DataW.trod_string Tryz.underlying9 h
  simp only [List.cons.injEq, and_true] at e
  exact ⟨bsl s, by rw [e, mkS_bsl]⟩
theorem row_of {α : Type} (V : α → List Value) {t e : TypeId} {v : Value} {n : Nat} {y : DataW H × List MemPlace} (h : TrdA enc W n t [v] y) (ht : Tryz.prog.underlying t = some (.slice e)) (k : Nat) (hk : Tryz.prog.cellsOf e = k) (hk0 : 0 < k)
    (hel : ∀ m cs z, TrdA enc W m e cs z → ∃ x, cs = V x) : ∃ l : List α, RowV W v k (l.map V) := by
  rcases Go.Deep.open_slice ht h with ⟨e1, _⟩ | ⟨a, len, cap, m, n', D, Pl, e1, _, hlc, _, hm, _, hall⟩
  · simp only [List.cons.injEq, and_true] at e1
    exact ⟨[], none, 0, e1, by simp, fun i x hx => by simp at hx⟩
  · simp only [List.cons.injEq, and_true] at e1
    simp only [if_true] at hm
    subst hm
    obtain ⟨b, o, sp⟩ := a
    have hsp : 0 < len → sp = none := fun hpos => by
      obtain ⟨cs, h1, h2⟩ := hall 0 (by omega)
      rw [hk] at h1
      obtain ⟨_, hcl, hc⟩ := World.cells?_some h1
      have h3 := hc 0 hk0
      rw [List.getElem?_eq_getElem (by omega)] at h3
      simpa [Addr.add] using World.cell?_spot h3
    obtain ⟨l, hl, hp⟩ := list_of (P := fun i (x : α) => sp = none ∧ ∀ q y, (V x)[q]? = some y → W.cell? ⟨b, o + i * k + q, none⟩ = some y) len (fun i hi => by
      obtain ⟨cs, h1, h2⟩ := hall i (by omega)
      rw [hk] at h1
      obtain ⟨x, rfl⟩ := hel _ _ _ h2
      obtain ⟨_, hcl, hc⟩ := World.cells?_some h1
      have hs := hsp (by omega)
      subst hs
      refine ⟨x, rfl, fun q y hy => ?_⟩
      have hq : q < k := by rw [← hcl]; exact (List.getElem?_eq_some_iff.1 hy).1
      have h4 := hc q hq
      rw [hy] at h4
      simpa [Addr.add_lit] using h4)
    refine ⟨l, some ⟨b, o, sp⟩, m, by rw [e1, List.length_map, hl], by rw [List.length_map, hl]; exact hlc, fun i x hx => ?_⟩
    rw [List.getElem?_map] at hx
    obtain ⟨x', h1, rfl⟩ := Option.map_eq_some_iff.1 hx
    obtain ⟨rfl, h2⟩ := hp i x' h1
    exact ⟨b, o, rfl, h2⟩
theorem f_req : fieldsOf 46 = some #[(9, 0), (9, 1), (4, 2)] := by kernel_rfl
theorem f_ver : fieldsOf 48 = some #[(9, 0), (9, 1)] := by kernel_rfl
theorem f_rep : fieldsOf 50 = some #[(48, 0), (48, 2)] := by kernel_rfl
theorem f_ret : fieldsOf 53 = some #[(9, 0), (9, 1), (9, 2)] := by kernel_rfl
theorem f_con : fieldsOf 28 = some #[(9, 0), (9, 1), (9, 2), (22, 3), (23, 4), (24, 5), (25, 6), (26, 7), (26, 8)] := by kernel_rfl
theorem c_str : Tryz.prog.cellsOf 9 = 1 := by kernel_rfl
theorem c_boo : Tryz.prog.cellsOf 4 = 1 := by kernel_rfl
theorem c_ver : Tryz.prog.cellsOf 48 = 2 := by kernel_rfl
theorem c_req : Tryz.prog.cellsOf 46 = 3 := by kernel_rfl
theorem c_rep : Tryz.prog.cellsOf 50 = 4 := by kernel_rfl
theorem c_ret : Tryz.prog.cellsOf 53 = 3 := by kernel_rfl
theorem c_con : Tryz.prog.cellsOf 28 = 9 := by kernel_rfl
theorem c_sreq : Tryz.prog.cellsOf 22 = 1 := by kernel_rfl
theorem c_sver : Tryz.prog.cellsOf 23 = 1 := by kernel_rfl
theorem c_srep : Tryz.prog.cellsOf 24 = 1 := by kernel_rfl
theorem c_sret : Tryz.prog.cellsOf 25 = 1 := by kernel_rfl
theorem c_sstr : Tryz.prog.cellsOf 26 = 1 := by kernel_rfl
theorem el_str (m : Nat) (cs : List Value) (z : DataW H × List MemPlace) (h : TrdA enc W m 9 cs z) : ∃ x, cs = strV x := by
  obtain ⟨s, e, _⟩ := DataW.trod_string Tryz.underlying9 h
  exact ⟨bsl s, by rw [e, strV, mkS_bsl]⟩
theorem el_req (m : Nat) (cs : List Value) (z : DataW H × List MemPlace) (h : TrdA enc W m 46 cs z) : ∃ x, cs = reqV x := by
  obtain ⟨hl, _⟩ := trod_at f_req (by decide) h
  rw [c_req] at hl
  obtain ⟨a, b, c, rfl⟩ := len3 hl
  · skip
    obtain ⟨_, _, h0⟩ := trod_fld f_req (by decide) h 0 9 0 1 rfl c_str
    obtain ⟨_, _, h1⟩ := trod_fld f_req (by decide) h 1 9 1 1 rfl c_str
    obtain ⟨_, _, h2⟩ := trod_fld f_req (by decide) h 2 4 2 1 rfl c_boo
    obtain ⟨p, rfl⟩ := str_cell (c := a) h0
    obtain ⟨v, rfl⟩ := str_cell (c := b) h1
    obtain ⟨q, e, _⟩ := DataW.trod_bool Tryz.underlying4 h2
    simp only [List.drop, List.take, List.cons.injEq, and_true] at e
    exact ⟨⟨p, v, q⟩, by rw [e]; rfl⟩
theorem el_ver (m : Nat) (cs : List Value) (z : DataW H × List MemPlace) (h : TrdA enc W m 48 cs z) : ∃ x, cs = verV x := by
  obtain ⟨hl, _⟩ := trod_at f_ver (by decide) h
  rw [c_ver] at hl
  obtain ⟨a, b, rfl⟩ := len2 hl
  · skip
    obtain ⟨_, _, h0⟩ := trod_fld f_ver (by decide) h 0 9 0 1 rfl c_str
    obtain ⟨_, _, h1⟩ := trod_fld f_ver (by decide) h 1 9 1 1 rfl c_str
    obtain ⟨p, rfl⟩ := str_cell (c := a) h0
    obtain ⟨v, rfl⟩ := str_cell (c := b) h1
    exact ⟨⟨p, v⟩, rfl⟩
theorem el_rep (m : Nat) (cs : List Value) (z : DataW H × List MemPlace) (h : TrdA enc W m 50 cs z) : ∃ x, cs = repV x := by
  obtain ⟨hl, _⟩ := trod_at f_rep (by decide) h
  rw [c_rep] at hl
  obtain ⟨a, b, c, d, rfl⟩ := len4 hl
  · skip
    obtain ⟨_, _, h0⟩ := trod_fld f_rep (by decide) h 0 48 0 2 rfl c_ver
    obtain ⟨_, _, h1⟩ := trod_fld f_rep (by decide) h 1 48 2 2 rfl c_ver
    obtain ⟨x, hx⟩ := el_ver _ _ _ h0
    obtain ⟨y, hy⟩ := el_ver _ _ _ h1
    simp only [List.drop, List.take, verV, List.cons.injEq, and_true] at hx hy
    exact ⟨⟨x.p, x.v, y.p, y.v⟩, by rw [hx.1, hx.2, hy.1, hy.2]; rfl⟩
theorem el_ret (m : Nat) (cs : List Value) (z : DataW H × List MemPlace) (h : TrdA enc W m 53 cs z) : ∃ x, cs = retV x := by
  obtain ⟨hl, _⟩ := trod_at f_ret (by decide) h
  rw [c_ret] at hl
  obtain ⟨a, b, c, rfl⟩ := len3 hl
  · skip
    obtain ⟨_, _, h0⟩ := trod_fld f_ret (by decide) h 0 9 0 1 rfl c_str
    obtain ⟨_, _, h1⟩ := trod_fld f_ret (by decide) h 1 9 1 1 rfl c_str
    obtain ⟨_, _, h2⟩ := trod_fld f_ret (by decide) h 2 9 2 1 rfl c_str
    obtain ⟨p, rfl⟩ := str_cell (c := a) h0
    obtain ⟨v, rfl⟩ := str_cell (c := b) h1
    obtain ⟨q, rfl⟩ := str_cell (c := c) h2
    exact ⟨⟨p, v, q⟩, rfl⟩
/-- A content that came in. -/
theorem open_content {v : Value} {d : DataW H} {ps : List MemPlace} (hv : ∃ cs : Array Value, v = .agg cs) (h : DataW.Trod enc Tryz.prog W 0 (fun _ => true) true 28 v d ps) :
    ∃ c v1 v2 v3 v4 v5 v6, v = contV' c v1 v2 v3 v4 v5 v6 ∧ ContV W c v1 v2 v3 v4 v5 v6 := by
  obtain ⟨cs, rfl⟩ := hv
  obtain ⟨n, h⟩ := h
  obtain ⟨ls⟩ := cs
  change TrdA enc W n 28 ls (d, ps) at h
  obtain ⟨hl, _⟩ := trod_at f_con (by decide) h
  rw [c_con] at hl
  obtain ⟨a0, a1, a2, a3, a4, a5, a6, a7, a8, rfl⟩ := len9 hl
  · skip
    obtain ⟨_, _, h0⟩ := trod_fld f_con (by decide) h 0 9 0 1 rfl c_str
    obtain ⟨_, _, h1⟩ := trod_fld f_con (by decide) h 1 9 1 1 rfl c_str
    obtain ⟨_, _, h2⟩ := trod_fld f_con (by decide) h 2 9 2 1 rfl c_str
    obtain ⟨_, _, h3⟩ := trod_fld f_con (by decide) h 3 22 3 1 rfl c_sreq
    obtain ⟨_, _, h4⟩ := trod_fld f_con (by decide) h 4 23 4 1 rfl c_sver
    obtain ⟨_, _, h5⟩ := trod_fld f_con (by decide) h 5 24 5 1 rfl c_srep
    obtain ⟨_, _, h6⟩ := trod_fld f_con (by decide) h 6 25 6 1 rfl c_sret
    obtain ⟨_, _, h7⟩ := trod_fld f_con (by decide) h 7 26 7 1 rfl c_sstr
    obtain ⟨_, _, h8⟩ := trod_fld f_con (by decide) h 8 26 8 1 rfl c_sstr
    obtain ⟨s0, rfl⟩ := str_cell (c := a0) h0
    obtain ⟨s1, rfl⟩ := str_cell (c := a1) h1
    obtain ⟨s2, rfl⟩ := str_cell (c := a2) h2
    obtain ⟨l3, r3⟩ := row_of reqV (v := a3) h3 (by kernel_rfl) 3 c_req (by decide) el_req
    obtain ⟨l4, r4⟩ := row_of verV (v := a4) h4 (by kernel_rfl) 2 c_ver (by decide) el_ver
    obtain ⟨l5, r5⟩ := row_of repV (v := a5) h5 (by kernel_rfl) 4 c_rep (by decide) el_rep
    obtain ⟨l6, r6⟩ := row_of retV (v := a6) h6 (by kernel_rfl) 3 c_ret (by decide) el_ret
    obtain ⟨l7, r7⟩ := row_of strV (v := a7) h7 (by kernel_rfl) 1 c_str (by decide) el_str
    obtain ⟨l8, r8⟩ := row_of strV (v := a8) h8 (by kernel_rfl) 1 c_str (by decide) el_str
    exact ⟨⟨s0, s1, s2, l3, l4, l5, l6, l7, l8⟩, a3, a4, a5, a6, a7, a8, rfl, ⟨r3, r4, r5, r6, r7, r8⟩⟩
end
set_option maxRecDepth 1000000 in
set_option maxHeartbeats 8000000 in
theorem lifted_rep (os : Os) (started : os.Started) (H : Type) (enc : TypeId × Value → H) :
    ReturnsInTold none {} Tryz.checked os 3 .any Input.okWide ((OpenSpec.ofChange Rows.fnRepeatedSpec).preRow enc Tryz.prog Tryz.f3 Rows.fnRepeatedRow.domain false Rows.fnRepeatedRow.laid)
      (fun F => ((OpenSpec.ofChange Rows.fnRepeatedSpec).at F).post enc Tryz.prog Tryz.f3 false true false false) (aloneAtReturn Tryz.prog) nothingAlways := by
  intro F
  show ReturnsInOpen {} (some F.told) Tryz.checked os 3 .any Input.okWide _ _ (aloneAtReturn Tryz.prog) nothingAlways
  refine returnsInOpen_of_calls_wide (by kernel_rfl) Tryz.own started (by kernel_rfl)
    (OpenSpec.witness_stopped_at (s := OpenSpec.ofChange Rows.fnRepeatedSpec) (conds := Rows.fnRepeatedRow.domain) (apart := false) (laid := Rows.fnRepeatedRow.laid) (fn := Tryz.f3) (f := 3) (os := os) (enc := enc) (C := Tryz.checked) false (laidWorld os) #[.agg #[.string ⟨#[]⟩, .string ⟨#[]⟩, .string ⟨#[]⟩, .slice none 0 0, .slice none 0 0, .slice none 0 0, .slice none 0 0, .slice none 0 0, .slice none 0 0], .bool false, .string ⟨#[]⟩, .string ⟨#[]⟩] rfl (by kernel_rfl) (by kernel_rfl) (by kernel_rfl)
      (OpenSpec.preRow_of_B rfl 8 (by kernel_rfl) (by kernel_rfl) (laid_met os _)) F.told) ?_
  intro w tape i hos hsh _ hok hpre hholds hF
  obtain ⟨_, _, _, fn', hfn', _, _, _, _, hval⟩ := hok
  obtain rfl : Tryz.f3 = fn' := Option.some.inj (Tryz.func3.symm.trans hfn')
  obtain ⟨⟨hp, hlaid⟩, hz⟩ := hpre
  obtain ⟨ds, gs, before, hw, hc, hk⟩ := OpenSpec.pre_parts hp
  have hW := DataW.Whole.of_heap (w' := w.forCall tape i) (by rfl) hw
  have hL := hlaid.of_heap (w' := w.forCall tape i) (by rfl)
  generalize hWd : w.forCall tape i = W at *
  generalize i.args = args at *
  have hW' := hW
  obtain ⟨p, q, hA0, hV0, rfl, hfz, hnd⟩ := hW
  have hA : DataW.TrodAll enc Tryz.prog W 0 (fun _ => true) true Tryz.f3.params.toList args.toList ds p := hA0
  rw [Tryz.params3] at hA hval
  obtain ⟨u0, u1, u2, u3, d0, d1, d2, d3, p0, p1, p2, p3, rfl, rfl, rfl, h0, h1, h2, h3⟩ := trodAll_four hA
  obtain ⟨rfl, rfl⟩ := trodVars_none hV0
  have h0k := h0
  obtain ⟨bl, rfl, rfl, rfl⟩ := open_bool Tryz.underlying4 (hval 1 4 u1 rfl rfl) h1
  obtain ⟨s2, rfl, rfl, rfl, w2⟩ := open_string Tryz.underlying9 (hval 2 9 u2 rfl rfl) h2
  obtain ⟨s3, rfl, rfl, rfl, w3⟩ := open_string Tryz.underlying9 (hval 3 9 u3 rfl rfl) h3
  obtain ⟨hpr, hP⟩ := prTab_of_laid (W := W) hL
  obtain ⟨fb, hsp, hfb, hSl⟩ := optab_of_shaped hsh (of_decide_eq_true (by kernel_rfl)) beginB (by rw [Array.size_replicate]) buU8 ctU8 (by rw [List.length_replicate]) (fun u hu => List.eq_of_mem_replicate hu)
  obtain ⟨fa, hsa, hfa, hAl⟩ := optab_of_shaped hsh (of_decide_eq_true (by kernel_rfl)) beginS (by rw [Array.size_replicate]) buU8 ctU8 (by rw [List.length_replicate]) (fun u hu => List.eq_of_mem_replicate hu)
  have hagg : ∃ cs : Array Value, u0 = .agg cs := by
    have h := hval 0 28 u0 rfl rfl
    obtain ⟨fs, hfs, _⟩ := fields_ex f_con (by decide)
    unfold Value.okWide at h
    rw [show Tryz.checked.prog.underlying 28 = some (.struct fs) from hfs] at h
    obtain ⟨cs, e, _⟩ := h
    exact ⟨cs, e⟩
  obtain ⟨c, v1, v2, v3, v4, v5, v6, rfl, hcv⟩ := open_content hagg h0
  have hlt : ∀ x ∈ p0, x.block < W.heap.size := fun x hx => by simpa using hW'.lt x (by simp [hx])
  refine (law_rep c bl s2 s3 v1 v2 v3 v4 v5 v6 W fb fa hcv ⟨hpr, hP, hsp, hSl, hsa, hAl, hfa⟩).mono fun e W' ⟨he, bel⟩ => ?_
  subst he
  exact ChangeSpec.post_blind ⟨_, _, _, [], _, [], hW', trodAll_mk1 (shut_bool Tryz.underlying4 _), trodAll_mk4 (Below.trod Tryz.laidOut (by kernel_rfl) (of_decide_eq_true (by kernel_rfl)) h0k bel hlt) (shut_bool Tryz.underlying4 _) (shut_string Tryz.underlying9 w2) (shut_string Tryz.underlying9 w3), rfl, bel.frame _, fun h => by cases h⟩
theorem repeated_holds : Rows.FnRepeatedToldSaid :=
  Claim7.holds_of_told_tied_any_at .later 3 Tryz.f3 "fmt.errorf" [] [] _ _ _ _ _ (by kernel_rfl) rfl rfl rfl Tryz.laidOut (by kernel_rfl) rfl ⟨rfl, rfl, rfl, rfl, rfl, rfl, rfl⟩ rfl rfl (by kernel_rfl) (by kernel_rfl) Tryz.func3 (by kernel_rfl)
    (of_decide_eq_true (by kernel_rfl)) (by unfold Func.isWrapper; first | (rw [if_pos (by decide +kernel)]; kernel_rfl) | (rw [if_neg (by decide +kernel)]; exact ⟨rfl, rfl⟩)) Tryz.stops.symm rfl Tryz.stopKnobs.symm (by kernel_rfl)
    (by kernel_rfl) (by kernel_rfl) (by kernel_rfl) (by kernel_rfl) (by kernel_rfl) (by kernel_rfl) (by kernel_rfl) (by kernel_rfl) (by kernel_rfl) rfl (by kernel_rfl) rfl rfl
    rfl rfl
    rfl (by kernel_rfl) (by kernel_rfl) (by kernel_rfl) (by decide) (by kernel_rfl) fnRepeated_row_tie
    (OpenClaim.moreEntering_of (by kernel_rfl) (by kernel_rfl) (by kernel_rfl) (by kernel_rfl) (by kernel_rfl) (by kernel_rfl) (by kernel_rfl) (by kernel_rfl) (by kernel_rfl) (by kernel_rfl))
    ⟨_, WideRow.started_initial, Tryz.quiet _⟩
    (fun os started _ H enc _ => lifted_rep os started H enc)
#print axioms repeated_holds
end Go.Proofs.YtifkpibjeamfkaaGreatFmt
