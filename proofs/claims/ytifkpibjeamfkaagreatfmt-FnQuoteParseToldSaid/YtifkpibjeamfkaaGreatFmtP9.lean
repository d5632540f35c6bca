/- newInput; parse at a text of lines of words. -/
import Derived.Test.YtifkpibjeamfkaaGreatFmtP8
import Derived.Defers
import Derived.Recover
set_option linter.unusedVariables false
namespace Go.Proofs.YtifkpibjeamfkaaGreatFmt
open Go.RowKit Go.Proofs

/-- The parser as newInput makes it. -/
def Lx0 (B D C : Nat) (T : List UInt8) (nm : ByteArray) : Lx :=
  { B := B, D := D, T := T, C := C, p := 0, q := 0, ts := nilS, kind := 0, tl := 0, tc := 0, tb := 0, el := 0, ec := 0, eb := 0, text := ⟨#[]⟩, fn := .string nm, com := nilS, file := .pointer none, perr := nilS, pre := nilS, post := nilS }

theorem newInput_any (D C : Nat) (T : List UInt8) (nm : ByteArray) (w : World) :
    Calls Tryz.prog 57 #[.string nm, .slice (some ⟨D, 0, none⟩) T.length C] w fun e w' => e = .returned (.pointer (some ⟨w.heap.size, 0, none⟩)) ∧ w' = w.alloc (Obj.cells (Lx0 w.heap.size D C T nm).cells 155) := by
  go_enter Tryz.func57, Tryz.ntmps57
  go_wp2
  go_ret
  exact ⟨rfl, rfl⟩


set_option maxRecDepth 100000 in
set_option maxHeartbeats 2000000 in
theorem parse_door (I E B : Nat) (w : World) (hI : w.cell? ⟨I, 0, none⟩ = some (.pointer (some ⟨B, 0, none⟩))) (hE : w.cell? ⟨E, 0, none⟩ = some .nilIface) (hB : w.cell? ⟨B, 17, none⟩ = some (.slice none 0 0)) :
    CallsD Tryz.prog 58 #[.pointer (some ⟨I, 0, none⟩), .pointer (some ⟨E, 0, none⟩)] .returning w fun e u' w' => e = .returned (.tuple #[]) ∧ u' = .returning ∧ w' = w := by
  refine callsD_of_wpS Tryz.func58 rfl fun c₀ cs hu => ?_
  simp only [Tryz.ntmps58, List.size_toArray, List.length_cons, List.length_nil, Nat.reduceAdd, Nat.reduceSub, Array.replicate_succ, Array.replicate_zero, List.push_toArray, List.append_toArray, List.nil_append, List.cons_append]
  apply wpS_seq
  apply wpS_seq
  apply wpS_region
  simp [wpOpsS, go_sem, recoverD, hu, Exit.thenS]
  refine wpS_of_wp ?_
  go_wp2
  show Code.wpS _ _ _ _ _ _
  refine wpS_of_wp ?_
  go_wp2
  simp [bodyPostS, results, Tryz.results58]
  cases c₀
  simp_all

theorem ilines_len (its : List It) : (ilines its).length ≤ its.length := by
  induction its with
  | nil => exact Nat.le_refl _
  | cons i is ih => cases i <;> simp [ilines, It.lines] <;> omega

/-- A text in memory as bytes. -/
structure TxtAt (w : World) (D C : Nat) (T : List UInt8) : Prop where
  cell : ∀ j, j < T.length → w.cell? ⟨D, j, none⟩ = some (.int .u8 (ch T j : Nat))
  ascii : ∀ j, ch T j < 128
  hn : T.length ≤ C
  hC : C ≤ 9223372036854775807
  hT : T.length ≤ 1152921504606846976
  dat : ∃ cs fz, w.heap[D]? = some (.cells cs 5 fz)

theorem TxtAt.lx {w W : World} {D C : Nat} {T : List UInt8} (h : TxtAt w D C T) (hb : Below w.heap.size w W) (B : Nat) (nm : ByteArray) (hB : Blk W B 155 (Lx0 B D C T nm).cells) : LxAt W (Lx0 B D C T nm) := by
  obtain ⟨cs, fz, e⟩ := h.dat
  have hD : D < w.heap.size := (Array.getElem?_eq_some_iff.1 e).1
  refine ⟨hB, fun j hj => (hb.cell (p := ⟨D, j, none⟩) hD).trans (h.cell j hj), h.ascii, Nat.zero_le _, h.hn, h.hC, h.hT, fun _ => rfl, ⟨cs, fz, (hb.block D hD).trans e⟩⟩

set_option maxRecDepth 100000 in
set_option maxHeartbeats 2000000 in
theorem parse_lines (w : World) (D C : Nat) (T : List UInt8) (nm : ByteArray) (its : List It) (en c : Tk) (cs : List Tk) (h : TxtAt w D C T) (hen : en.k = -1) (hits : ∀ i ∈ its, i.ok) (hts : itoks its ++ [en] = c :: cs) (h0 : TokAt T 0 c) (hch : Chain T c cs)
    (hl0 : 0 < (ilines its).length) (hlen : its.length ≤ 999999) (hpr : PrTab w) (hP : 0 < w.heap.size) :
    Calls Tryz.prog 49 #[.string nm, .slice (some ⟨D, 0, none⟩) T.length C] w fun e w' => ∃ F Ls, e = .returned (.tuple #[.pointer (some ⟨F, 0, none⟩), .nilIface]) ∧ Below w.heap.size w w' ∧
      FileAt w.heap.size w' F nm (Ls.map lineV) ∧ LinesAt w.heap.size w' T Ls (ilines its) := by
  have hmf : ∀ (fn : Fn) (first cap : Array Value) (w : World), (Instr.makeFunc fn first cap).run Tryz.prog w = .ok (.func fn first cap) w := fun _ _ _ _ => rfl
  have H := hide h
  have HP := hide hpr
  have HC := hide hch
  have H0 := hide h0
  have HT := hide hts
  have HI := hide hits
  have HE := hide hen
  have HL0 := hide hl0
  clear h hpr hch h0 hts hits hen hl0
  go_enter_defers Tryz.func49, Tryz.ntmps49
  go_wp2_with fail
  refine (newInput_any D C T nm _).mono ?_
  rintro e w1 ⟨rfl, rfl⟩
  go_wp2_with fail
  have bE := ((Blk.new w 66 #[Value.nilIface]).alloc (Obj.cells (Lx0 (w.heap.size + 1) D C T nm).cells 155)).alloc (Obj.cells #[Value.pointer (some ⟨w.heap.size + 1, 0, none⟩)] 149)
  have bB := (Blk.new (w.alloc (Obj.cells #[Value.nilIface] 66)) 155 (Lx0 (w.heap.size + 1) D C T nm).cells).alloc (Obj.cells #[Value.pointer (some ⟨w.heap.size + 1, 0, none⟩)] 149)
  have bI := Blk.new ((w.alloc (Obj.cells #[Value.nilIface] 66)).alloc (Obj.cells (Lx0 (w.heap.size + 1) D C T nm).cells 155)) 149 #[Value.pointer (some ⟨w.heap.size + 1, 0, none⟩)]
  have hbW : Below w.heap.size w (((w.alloc (Obj.cells #[Value.nilIface] 66)).alloc (Obj.cells (Lx0 (w.heap.size + 1) D C T nm).cells 155)).alloc (Obj.cells #[Value.pointer (some ⟨w.heap.size + 1, 0, none⟩)] 149)) :=
    (((Below.refl _ w).alloc (Nat.le_refl _) _).alloc (by simp) _).alloc (by simp; omega) _
  rw [show (w.alloc (Obj.cells #[Value.nilIface] 66)).heap.size = w.heap.size + 1 from by simp] at bB
  rw [show ((w.alloc (Obj.cells #[Value.nilIface] 66)).alloc (Obj.cells (Lx0 (w.heap.size + 1) D C T nm).cells 155)).heap.size = w.heap.size + 1 + 1 from by simp] at bI
  generalize (((w.alloc (Obj.cells #[Value.nilIface] 66)).alloc (Obj.cells (Lx0 (w.heap.size + 1) D C T nm).cells 155)).alloc (Obj.cells #[Value.pointer (some ⟨w.heap.size + 1, 0, none⟩)] 149)) = W at bE bB bI hbW ⊢
  have hlx := H.out.lx hbW _ nm bB
  have hprW : PrTab W := HP.out.keptT (N := w.heap.size) (S := fun _ => True) ⟨hbW, fun k cs t fz e hn => absurd True.intro hn⟩ hP
  refine (readToken_tok w.heap.size (Lx0 (w.heap.size + 1) D C T nm) W c hlx ⟨_, _, _, rfl⟩ H0.out hprW hP (Nat.le_succ _)).mono ?_
  rintro e w2 ⟨rfl, hat2, hk2⟩
  have bE2 := bE.keptT hk2 (by decide)
  have bI2 := bI.keptT hk2 (by decide)
  have eI2 : w2.cell? ⟨w.heap.size + 1 + 1, 0, none⟩ = some (.pointer (some ⟨w.heap.size + 1, 0, none⟩)) := bI2.cell 0 rfl
  have HA2 := hide hat2
  have hpr2 := hprW.keptT hk2 hP
  have HP2 := hide hpr2
  have HB2 := hide (hbW.trans hk2.below)
  have BE2 := hide bE2
  have BI2 := hide bI2
  clear bE bB bI hbW hlx hprW hat2 hk2 bE2 bI2 hpr2
  go_wp2_with fail
  refine (parseFile_lines w.heap.size (Lx0 (w.heap.size + 1) D C T nm) w2 its en c cs HE.out HI.out HT.out HC.out HA2.out (by omega) HP2.out hP (Nat.le_succ _)).mono ?_
  rintro e w3 ⟨rfl, F, Ls, hF, hat3, hk3, hfa, hls⟩
  obtain ⟨q, tsv, hsl, hx⟩ := hat3
  have hxb := hx.blk
  have e17 : w3.cell? ⟨w.heap.size + 1, 17, none⟩ = some (.slice none 0 0) := hx.c17
  have e16 : w3.cell? ⟨w.heap.size + 1, 16, none⟩ = some (.pointer (some ⟨F, 0, none⟩)) := hx.c16
  have e0 : w3.cell? ⟨w.heap.size + 1, 0, none⟩ = some (.string nm) := hxb.cell 0 rfl
  have bI3 := BI2.out.keptT hk3 (by simp [Stmt3])
  have bE3 := BE2.out.keptT hk3 (by simp [Stmt3])
  have eI3 : w3.cell? ⟨w.heap.size + 1 + 1, 0, none⟩ = some (.pointer (some ⟨w.heap.size + 1, 0, none⟩)) := bI3.cell 0 rfl
  obtain ⟨fv, hfb, hfo⟩ := hfa
  have hsz2 : w.heap.size + 1 + 1 < w2.heap.size := BI2.out.lt
  have hF1 : F ≠ w.heap.size + 1 := by omega
  have hF2 : F ≠ w.heap.size + 1 + 1 := by omega
  have hF0 : F ≠ w.heap.size := by omega
  have ff : ∀ j, w3.frozen? ⟨F, j, none⟩ = false := fun j => hfb.free j
  have fc0 : w3.cell? ⟨F, 0, none⟩ = some (.string ⟨#[]⟩) := hfb.cell 0 rfl
  have hFlt := hfb.lt
  have hw4 : Hid (Blk (w3.setCell ⟨F, 0, none⟩ (.string nm)).drew (w.heap.size + 1) 155 (({ Lx0 (w.heap.size + 1) D C T nm with file := .pointer (some ⟨F, 0, none⟩) } : Lx).lexed q tsv en.k en.s en.e (txtOf T en)).cells ∧
      ExprAt w.heap.size (w3.setCell ⟨F, 0, none⟩ (.string nm)).drew T F nm Ls ∧ LinesAt w.heap.size (w3.setCell ⟨F, 0, none⟩ (.string nm)).drew T Ls (ilines its) ∧ Below w.heap.size w (w3.setCell ⟨F, 0, none⟩ (.string nm)).drew ∧
      Blk (w3.setCell ⟨F, 0, none⟩ (.string nm)).drew (w.heap.size + 1 + 1) 149 #[Value.pointer (some ⟨w.heap.size + 1, 0, none⟩)] ∧ Blk (w3.setCell ⟨F, 0, none⟩ (.string nm)).drew w.heap.size 66 #[Value.nilIface]) := by
    have kk : Kt w.heap.size (fun u => u = 129) w3 (w3.setCell ⟨F, 0, none⟩ (.string nm)).drew := by
      refine Kt.drew ?_
      refine Kt.set_blk ?_ (by omega) hfb rfl
      exact Kt.refl _ _ _
    have hls4 := hls.keptT kk (by decide) (by decide)
    refine hide ⟨hxb.keptT kk (by decide), ⟨⟨fv, (hfb.set 0 _).drew, ownsRow_keptT hfo kk (by decide)⟩, fun L hL => LinesAt.at hls4 L hL⟩, hls4, (HB2.out.trans hk3.below).trans kk.below, bI3.keptT kk (by decide), bE3.keptT kk (by decide)⟩
  have HX := hide hx
  clear hx hxb hls hfo hfb bI3 bE3 hk3
  go_wp2_with fail
  go_region_held3 (fun w' => w'.cell? ⟨w.heap.size + 1 + 1, 0, none⟩ = some (.pointer (some ⟨w.heap.size + 1, 0, none⟩)) ∧ w'.cell? ⟨w.heap.size + 1, 16, none⟩ = some (.pointer (some ⟨F, 0, none⟩)) ∧ w'.cell? ⟨w.heap.size + 1, 0, none⟩ = some (.string nm)) (go_keep) (fail)
  all_goals (generalize (w3.setCell ⟨F, 0, none⟩ (.string nm)).drew = W4 at hw4 ⊢)
  obtain ⟨b4, hE4, hls4, hb4, bI4, bE4⟩ := hw4.out
  clear hw4 HX
  have eI4 : W4.cell? ⟨w.heap.size + 1 + 1, 0, none⟩ = some (.pointer (some ⟨w.heap.size + 1, 0, none⟩)) := bI4.cell 0 rfl
  have hLl : Ls.length = (ilines its).length := hls4.len
  have hL0 : 0 < Ls.length := by rw [hLl]; exact HL0.out
  have hL1 : Ls.length ≤ 999999 := by have := ilines_len its; omega
  have B4 := hide b4
  have HE4 := hide hE4
  have HLS4 := hide hls4
  have HB4 := hide hb4
  have BI4 := hide bI4
  have BE4 := hide bE4
  clear b4 hE4 hls4 hb4 bI4 bE4 e17 e16 e0 eI3 ff fc0 eI2 HB2 HA2
  go_wp2_with fail
  refine (assign_lines w.heap.size W4 T (w.heap.size + 1) F nm (({ Lx0 (w.heap.size + 1) D C T nm with file := .pointer (some ⟨F, 0, none⟩) } : Lx).lexed q tsv en.k en.s en.e (txtOf T en)).cells Ls
    ⟨rfl, B4.out.lt, B4.out.eq rfl, ⟨rfl, Or.inl ⟨rfl, rfl⟩⟩, ⟨rfl, Or.inl ⟨rfl, rfl⟩⟩, fun g h => by simp [nilS, Value.ownBlock] at h⟩ rfl rfl HE4.out hL0 hL1).mono ?_
  rintro e w5 ⟨rfl, hk5, hE5, p5, q5, bB5⟩
  have hFb4 : ∃ v, Blk W4 F 129 v := by obtain ⟨v, hb, _⟩ := HE4.out.1; exact ⟨_, hb⟩
  obtain ⟨fv4, hFb4⟩ := hFb4
  have kt5 : Kt w.heap.size (fun u => u = 155 ∨ u = 129) W4 w5 := by
    refine Kt.of_kp hk5 HB4.out.size (fun k hk => ?_) (fun k hk cs t fz e => ?_)
    · rcases hk with rfl | rfl | hk
      · omega
      · omega
      · have := HB4.out.size; omega
    · rcases hk with rfl | rfl | hk
      · have h1 := B4.out.out
        rw [e] at h1; injection h1 with h1; injection h1 with _ h1
        exact Or.inl h1
      · have h1 := hFb4.out
        rw [e] at h1; injection h1 with h1; injection h1 with _ h1
        exact Or.inr h1
      · have := (Array.getElem?_eq_some_iff.1 e).1
        omega
  have bI5 := BI4.out.keptT kt5 (by decide)
  have bE5 := BE4.out.keptT kt5 (by decide)
  have hls5 := HLS4.out.keptT kt5 (by decide) (by decide)
  have hb5 := HB4.out.trans kt5.below
  have eI5 : w5.cell? ⟨w.heap.size + 1 + 1, 0, none⟩ = some (.pointer (some ⟨w.heap.size + 1, 0, none⟩)) := bI5.cell 0 rfl
  have e165 : w5.cell? ⟨w.heap.size + 1, 16, none⟩ = some (.pointer (some ⟨F, 0, none⟩)) := bB5.cell 16 rfl
  have e175 : w5.cell? ⟨w.heap.size + 1, 17, none⟩ = some (.slice none 0 0) := bB5.cell 17 rfl
  have eE5 : w5.cell? ⟨w.heap.size, 0, none⟩ = some .nilIface := bE5.cell 0 rfl
  have fE5 : ∀ j, w5.frozen? ⟨w.heap.size, j, none⟩ = false := fun j => bE5.free j
  have sE5 : w5.setCell ⟨w.heap.size, 0, none⟩ .nilIface = w5 := bE5.set_id rfl
  have HLS5 := hide hls5
  have HB5 := hide hb5
  have HE5 := hide hE5.1
  clear hk5 hE5 bB5 hFb4 kt5 bI5 bE5 hls5 hb5 eI4 hLl
  go_wp2_with fail
  refine leaves_cons (f := 58) (args := #[.pointer (some ⟨w.heap.size + 1 + 1, 0, none⟩), .pointer (some ⟨w.heap.size, 0, none⟩)]) (by simp) (by simp [go_sem]) ?_
  refine (parse_door (w.heap.size + 1 + 1) w.heap.size (w.heap.size + 1) w5 eI5 eE5 e175).mono ?_
  rintro e u' w6 ⟨rfl, rfl, rfl⟩
  simp [Leaves, settle, results, Tryz.results49, go_sem, eE5]
  exact ⟨HB5.out, Ls, HE5.out, HLS5.out⟩
end Go.Proofs.YtifkpibjeamfkaaGreatFmt
