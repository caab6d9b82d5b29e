import Derived.Test.Qxb6000095aOf
namespace Go.Proofs.Qxb6000095a
open Go.RowKit
set_option linter.unusedSimpArgs false
set_option linter.unusedVariables false
attribute [local go_sem ↓] Go.wp_at_zero Go.wp_at_succ

theorem info21 : (Try.prog.info? 21).map (fun i => (i.zero, i.size, i.bytes)) = some (some (.int .i32 0), 1, 4) := by kernel_rfl

theorem mk26 (n : Nat) (h : n ≤ 32768) : ∃ cur : Array Value, cur.size = n ∧ (∀ j, j < n → cur[j]? = some (.int .i32 0)) ∧ ∀ w : World, (Instr.makeSlice 26 (.int .i64 (n : Int)) (.int .i64 (n : Int))).run Try.prog w =
    .ok (.slice (some ⟨w.heap.size, 0, none⟩) n n) (w.alloc (.cells cur 21)) := by
  obtain ⟨i, hi, hz0, hz1, hz2⟩ := info_parts info21
  refine ⟨madeCells #[.int .i32 0] (n * 1), by rw [size_madeCells]; omega, fun j hj => ?_, fun w => ?_⟩
  · have h1 : (madeCells #[.int .i32 0] (n * 1)) = (Array.range (n * 1)).map fun k => (#[Value.int .i32 0] : Array Value)[k % 1]! := rfl
    rw [h1, Array.getElem?_map, Array.getElem?_range]
    simp [hj, Nat.mod_one]
  · have := run_make (P := Try.prog) w 26 21 i _ Try.underlying26 hi hz0 .i64 .i64 (n : Int) (n : Int) (by omega) (by omega) (by rw [hz2]; omega) (by omega)
    rw [hz1] at this
    simpa [Value.cells] using this

/-- the first loop: rows k .. n-1 have been chained -/
structure Rel3a (w0 wr : World) (NB LB F n k : Nat) (PA : Nat → ByteArray) (cur : Array Value) (c c' : Nat) : Prop where
  hN : wr.heap[NB]? = some (.cells cur 21 (0, 0))
  sz : cur.size = n
  done : ∀ j, k ≤ j → j < n → cur[j]? = some (.int .i32 (nxt PA n j))
  todo : ∀ j, j < k → cur[j]? = some (.int .i32 0)
  later : SMap wr LB c (fst PA n k)
  first : SMap wr F c' (fst PA n k)
  cl : c ≤ n - k
  cl' : c' ≤ n - k
  chg : Chg w0 wr (fun j => j = NB ∨ j = LB ∨ j = F)
  NL : NB ≠ LB
  NF : NB ≠ F
  LF : LB ≠ F

theorem rel3a_next {w0 wr w1 w2 w3 : World} {NB LB F n i : Nat} {PA : Nat → ByteArray} {cur cur' : Array Value} {c c' d d' : Nat} (D : Rel3a w0 wr NB LB F n (i + 1) PA cur c c') (hi : i < n)
    (h1 : Chg wr w1 (fun j => j = NB)) (hN1 : w1.heap[NB]? = some (.cells cur' 21 (0, 0))) (hc1 : cur' = cur.setIfInBounds i (.int .i32 (nxt PA n i)))
    (h2 : Chg w1 w2 (fun j => j = LB)) (m2 : SMap w2 LB d (upd (fst PA n (i + 1)) (PA i) (i : Int))) (hd : d ≤ c + 1)
    (h3 : Chg w2 w3 (fun j => j = F)) (m3 : SMap w3 F d' (upd (fst PA n (i + 1)) (PA i) (i : Int))) (hd' : d' ≤ c' + 1) :
    Rel3a w0 w3 NB LB F n i PA cur' d d' := by
  have e := fst_step PA hi
  have z1 := D.cl
  have z2 := D.cl'
  have hs := D.sz
  refine ⟨h3.heap (h2.heap hN1 D.NL) D.NF, by rw [hc1]; simpa using D.sz, ?_, ?_, by rw [e]; exact m2.chg h3 D.LF, by rw [e]; exact m3, by omega, by omega, ?_, D.NL, D.NF, D.LF⟩
  · intro j h4 h5
    rw [hc1]
    by_cases ej : j = i
    · subst ej; rw [Array.getElem?_setIfInBounds_self_of_lt (by omega)]
    · rw [Array.getElem?_setIfInBounds_ne (by omega)]; exact D.done j (by omega) h5
  · intro j h4
    rw [hc1, Array.getElem?_setIfInBounds_ne (by omega)]; exact D.todo j (by omega)
  · refine D.chg.trans (h1.trans (h2.trans h3 (S'' := fun j => j = NB ∨ j = LB ∨ j = F) (fun _ _ h => .inr (.inl h)) (fun _ _ h => .inr (.inr h))) (S'' := fun j => j = NB ∨ j = LB ∨ j = F) (fun _ _ h => .inl h) (fun _ _ h => h)) (fun _ _ h => h) (fun _ _ h => h)

/-- the second loop: the first k rows have been interned and added -/
structure Rel3b (wE wr : World) (base G F Tb n k : Nat) (PA : Nat → ByteArray) (YR : Nat → Int) (GR : Nat → ByteArray) (LN : Nat → Int) (vm vt : Value) (cbs : List Nat) : Prop where
  texts : Texts wr base G Tb vt (dis GR k)
  marks : Marks wr base G vm cbs k LN YR (tnum GR) (nxt PA n)
  hG : wr.heap[G]? = some (.cells #[.map (some F), vm, .int .i32 (k : Int), vt, .map (some Tb), .int .i64 0] 61 (0, 0))
  apart : ∀ b, vt.ownBlock = some b → ¬ Own vm cbs b
  chg : Chg wE wr (fun j => j = G ∨ j = Tb ∨ base ≤ j)
  bs : wE.heap.size = base
  Gb : G < base
  Tb' : Tb < base

theorem Marks.own_lt {w : World} {base G : Nat} {vm : Value} {cbs : List Nat} {n : Nat} {L Y T N : Nat → Int} (M : Marks w base G vm cbs n L Y T N) {b : Nat} (h : Own vm cbs b) : base ≤ b ∧ b < w.heap.size := by
  rcases h with h | ⟨j, hj, rfl⟩
  · exact M.row.lt _ h
  · obtain ⟨cur, h1, _⟩ := M.blk j hj
    exact ⟨(M.low j hj).1, (Array.getElem?_eq_some_iff.1 h1).1⟩

/-- behind intern -/
theorem rel3b_marks {wE wr wa : World} {base G F Tb n k : Nat} {PA : Nat → ByteArray} {YR : Nat → Int} {GR : Nat → ByteArray} {LN : Nat → Int} {vm vt vt' : Value} {cbs : List Nat} {ys : List ByteArray} (D : Rel3b wE wr base G F Tb n k PA YR GR LN vm vt cbs)
    (A : Interned wr wa base G Tb (.map (some F)) vm (.int .i32 (k : Int)) (.int .i64 0) vt ys vt') : Marks wa base G vm cbs k LN YR (tnum GR) (nxt PA n) ∧ (∀ b, vt'.ownBlock = some b → ¬ Own vm cbs b) := by
  have hG := D.Gb
  have hT := D.Tb'
  refine ⟨D.marks.chg A.chg ?_, ?_⟩
  · rintro b hb (e | e | e)
    · have := (D.marks.own_lt hb).1; omega
    · have := (D.marks.own_lt hb).1; omega
    · exact D.apart b e hb
  · intro b hb ho
    rcases A.new b hb with h | h
    · exact D.apart b h ho
    · have := (D.marks.own_lt ho).2; omega

/-- behind add -/
theorem rel3b_next {wE wr wa wx wb : World} {base G F Tb n k : Nat} {PA : Nat → ByteArray} {YR : Nat → Int} {GR : Nat → ByteArray} {LN : Nat → Int} {vm vt vt' vm' : Value} {cbs cbs' : List Nat} (D : Rel3b wE wr base G F Tb n k PA YR GR LN vm vt cbs)
    (A : Interned wr wa base G Tb (.map (some F)) vm (.int .i32 (k : Int)) (.int .i64 0) vt (addT (dis GR k) (GR k)) vt') (hx : Chg wa wx (fun _ => False))
    (B : Added wx wb base G (.map (some F)) vm vt' (.map (some Tb)) (.int .i64 0) cbs k LN YR (tnum GR) (nxt PA n) vm' cbs') : Rel3b wE wb base G F Tb n (k + 1) PA YR GR LN vm' vt' cbs' := by
  have hG := D.Gb
  have hT := D.Tb'
  obtain ⟨M, hap⟩ := rel3b_marks D A
  have X : Texts wx base G Tb vt' (dis GR (k + 1)) := A.texts.chg hx id (fun _ _ => id)
  refine ⟨X.chg B.chg ?_ ?_, B.marks, by rw [B.hG]; simp, ?_, ?_, D.bs, D.Gb, D.Tb'⟩
  · rintro (e | e)
    · exact X.TG e
    · have := (M.own_lt e).1; omega
  · rintro b hb (e | e)
    · subst e; exact X.vG hb
    · exact hap b hb e
  · intro b hb ho
    rcases B.new b ho with h | h
    · exact hap b hb h
    · have := (X.row.lt b hb).2; omega
  · refine D.chg.trans (A.chg.trans (hx.trans B.chg (S'' := fun j => j = G ∨ base ≤ j) (fun _ _ h => h.elim) ?_) (S'' := fun j => j = G ∨ j = Tb ∨ base ≤ j) ?_ ?_) (fun _ _ h => h) (fun _ _ h => h)
    · rintro j _ (e | e)
      · exact .inl e
      · exact .inr (M.own_lt e).1
    · rintro j _ (e | e | e)
      · exact .inl e
      · exact .inr (.inl e)
      · exact .inr (.inr (D.texts.row.lt _ e).1)
    · rintro j _ (e | e)
      · exact .inl e
      · exact .inr (.inr e)

/-- a block below base that is not G is as it was behind add -/
theorem added_far {wx wb : World} {base G : Nat} {f vm tx tm la : Value} {cbs : List Nat} {n : Nat} {L Y T N : Nat → Int} {vm' : Value} {cbs' : List Nat} (M : Marks wx base G vm cbs n L Y T N) (B : Added wx wb base G f vm tx tm la cbs n L Y T N vm' cbs')
    {b : Nat} (h1 : b < base) (h2 : b ≠ G) (hl : b < wx.heap.size) : wb.heap[b]? = wx.heap[b]? := by
  refine B.chg.block b hl ?_
  rintro (e | e)
  · exact h2 e
  · have := (M.own_lt e).1; omega

theorem keep3b {wa wx wb : World} {base G R NB : Nat} {f vm tx tm la : Value} {cbs : List Nat} {n : Nat} {L Y T N : Nat → Int} (M : Marks wa base G vm cbs n L Y T N) (hx : Chg wa wx (fun _ => False))
    (h : ∃ vm' cbs', Added wx wb base G f vm tx tm la cbs n L Y T N vm' cbs') (hR : R < base ∧ R ≠ G ∧ R < wa.heap.size) (hN : NB < base ∧ NB ≠ G ∧ NB < wa.heap.size) {o0 o1 o2 : Nat} {a0 a1 a2 : Value}
    (hc : wa.cell? ⟨R, o0, none⟩ = some a0 ∧ wa.cell? ⟨R, o1, none⟩ = some a1 ∧ wa.cell? ⟨NB, o2, none⟩ = some a2) :
    wb.cell? ⟨R, o0, none⟩ = some a0 ∧ wb.cell? ⟨R, o1, none⟩ = some a1 ∧ wb.cell? ⟨NB, o2, none⟩ = some a2 := by
  obtain ⟨vm', cbs', B⟩ := h
  have M' : Marks wx base G vm cbs n L Y T N := M.chg hx (fun _ _ => id)
  have hz := hx.size
  have e1 := (added_far M' B hR.1 hR.2.1 (by omega)).trans (hx.block R hR.2.2 id)
  have e2 := (added_far M' B hN.1 hN.2.1 (by omega)).trans (hx.block NB hN.2.2 id)
  exact ⟨(World.cell?_of_block (w := wa) e1).trans hc.1, (World.cell?_of_block (w := wa) e1).trans hc.2.1, (World.cell?_of_block (w := wa) e2).trans hc.2.2⟩

set_option maxRecDepth 100000 in
set_option maxHeartbeats 2000000 in
theorem f3_core (w : World) (a : Option Addr) (len cap : Nat) (PA : Nat → ByteArray) (YR : Nat → Int) (GR : Nat → ByteArray) (LN : Nat → Int) (p : ByteArray) (year : Int) (h : IsFRows w a len cap PA YR GR LN) (hf : FFit len PA YR GR LN) (hlen : len ≤ 16384)
    (hsm : FSmall len PA GR p) (hy0 : -9223372036854775808 ≤ year) (hy1 : year ≤ 9223372036854775807) :
    Calls Try.prog 3 #[.slice a len cap, .string p, .int .i64 year] w fun e w' => e = .returned (.bool true) ∧ Below w.heap.size w w' := by
  obtain ⟨hsm1, hsm2⟩ := hsm
  have H7 := hide (f7_any w a len cap PA YR GR LN p year h hf (by unfold maxLen; omega))
  have H8 := hide (f8_any w a len cap PA YR GR LN p.size h hsm1 hsm2 (by omega))
  have HI := hide h
  have HF := hide hf
  have HS := hide hsm1
  have hd2 : decide ((16384 : Int) < (len : Int)) = false := by simp; omega
  obtain ⟨cur0, hcs0, hcz0, hmk⟩ := mk26 len (by omega)
  have HZ := hide hcz0
  have hmm := @run_makeMap Try.prog
  have lt0 : ∀ {b : Nat}, True := trivial
  clear h hf hsm1 hcz0 lt0
  go_enter Try.func3, Try.ntmps3
  go_wp2_with fail
  refine H7.out.mono ?_
  rintro e w' ⟨rfl, r, rfl, _⟩
  cases r with
  | false =>
    go_wp2
    go_ret
    exact ⟨rfl, Below.refl _ _⟩
  | true =>
  go_wp2_with fail
  refine H8.out.mono ?_
  rintro e w0 ⟨hw0, r, rfl⟩
  cases r with
  | true =>
    have HW0 := hide hw0
    clear hw0
    go_wp2
    go_ret
    exact ⟨rfl, HW0.out.below (Nat.le_refl _) (fun _ _ => id)⟩
  | false =>
  have H9 := hide (f9_any w0 a len cap PA YR GR LN (by
    rcases HI.out with h | ⟨x, h1, h2, h3, h4⟩
    · exact .inl h
    · refine .inr ⟨x, h1, h2, h3, fun i hi => ?_⟩
      obtain ⟨q0, q1, q2, q3⟩ := h4 i hi
      exact ⟨(World.cell?_of_block (w := w') (hw0.block _ (World.block_lt_of_cell? w' _ q0) id)).trans q0, (World.cell?_of_block (w := w') (hw0.block _ (World.block_lt_of_cell? w' _ q1) id)).trans q1,
        (World.cell?_of_block (w := w') (hw0.block _ (World.block_lt_of_cell? w' _ q2) id)).trans q2, (World.cell?_of_block (w := w') (hw0.block _ (World.block_lt_of_cell? w' _ q3) id)).trans q3⟩) (by omega))
  have HW0 := hide hw0
  clear hw0
  go_wp2_with fail
  refine H9.out.mono ?_
  rintro e w1 ⟨ar, R, rfl, hrow, hR, hch1⟩
  have HR1 := hide hrow
  have HC1 := hide hch1
  clear hrow hch1 H7 H8 H9
  go_wp2_with fail
  refine (f10_abs _).mono ?_
  rintro e w3 ⟨G, F, Tm, rfl, hG, hF, hT, h1, h2, h3, h4, h5, h6, hch2⟩
  have s1 : ((w1.alloc (.cells cur0 21)).alloc (.map #[] 0)).heap.size = w1.heap.size + 2 := by simp
  rw [s1] at h1 h2 h3
  have r1 : FRowed w3 ar R len PA YR GR LN := ((HR1.out.chg (Chg.ofAlloc _ _ (fun _ => False)) id).chg (Chg.ofAlloc _ _ (fun _ => False)) id).chg hch2 id
  have r3 : w3.heap[w1.heap.size]? = some (.cells cur0 21 (0, 0)) := hch2.heap (heap_old _ (heap_new _ rfl)) id
  have r3L : w3.heap[w1.heap.size + 1]? = some (.map #[] 0) := hch2.heap (heap_new _ (by simp)) id
  have r4 : Chg w' w3 (fun _ => False) := (((HW0.out.chain HC1.out).alloc _).alloc _).chain hch2
  have r6 : G < w3.heap.size := (Array.getElem?_eq_some_iff.1 hG).1
  have r6F : F < w3.heap.size := (Array.getElem?_eq_some_iff.1 hF).1
  have r6T : Tm < w3.heap.size := (Array.getElem?_eq_some_iff.1 hT).1
  have r7 : 0 < len → R < w1.heap.size := fun h => by obtain ⟨_, cur, h', _⟩ := HR1.out h; exact (Array.getElem?_eq_some_iff.1 h').1
  have r8 : w'.heap.size ≤ w1.heap.size := Nat.le_trans HW0.out.size HC1.out.size
  have r9 : w'.heap.size ≤ w0.heap.size := HW0.out.size
  clear hch2 s1 hmk hmm
  generalize w1.heap.size = NB at *
  have HG := hide hG
  have HT := hide hT
  have HR3 := hide r1
  have HC3 := hide r4
  have HSt := hide (show Rel3a w3 w3 NB (NB + 1) F len len PA cur0 0 0 from ⟨r3, hcs0, fun j h1 h2 => by omega, HZ.out, by rw [fst_end]; exact SMap.made r3L, by rw [fst_end]; exact SMap.made hF, Nat.zero_le _, Nat.zero_le _, Chg.refl _ _, by omega, by omega, by omega⟩)
  clear hG hF hT r1 r3 r3L r4 hcs0 HC1 HR1 HZ HI HW0
  go_wp2_with fail
  go_loopw [11] (fun i wr => ∃ (k : Nat) (cur : Array Value) (c c' : Nat), k ≤ len ∧ i = .int .i64 ((k : Int) - 1) ∧ Rel3a w3 wr NB (NB + 1) F len k PA cur c c') (fun i _ => (intOf i + 1).toNat)
  case atStart => exact ⟨len, cur0, 0, 0, Nat.le_refl _, rfl, HSt.out⟩
  case round =>
    obtain ⟨k, cur, c, c', hk, rfl, D⟩ := hrel
    cases k with
    | zero =>
      rw [show (((0 : Nat) : Int) - 1) = (-1 : Int) by omega]
      have sE := D.chg.size
      have HRE := hide (HR3.out.chg (w' := wr) D.chg)
      have HGE := hide (D.chg.heap HG.out (by omega))
      have HTE := hide (D.chg.heap HT.out (by omega))
      have HCE := hide (HC3.out.trans D.chg (S'' := fun j => w'.heap.size ≤ j) (fun _ _ h => h.elim) (fun j _ h => by omega))
      have HD := hide D
      clear D
      go_wp2_with fail
      generalize wr = wE at *
      go_loopw [14] (fun i wr => ∃ (k : Nat) (vm vt : Value) (cbs : List Nat), k ≤ len ∧ i = .int .i64 k ∧ Rel3b wE wr wE.heap.size G F Tm len k PA YR GR LN vm vt cbs) (fun i _ => len - (intOf i).toNat)
      case atStart =>
        exact ⟨0, .slice none 0 0, .slice none 0 0, [], Nat.zero_le _, rfl, ⟨World.ownsRow_nil _ _ _ _, SMap.made HTE.out, by simp [Value.ownBlock], by simp [Value.ownBlock], h6, fun s hs => by cases hs⟩,
          ⟨rfl, World.ownsRow_nil _ _ _ _, fun k hk => absurd hk (Nat.not_lt_zero _), fun k hk => absurd hk (Nat.not_lt_zero _), fun j k _ hk => absurd hk (Nat.not_lt_zero _), by simp [Value.ownBlock]⟩, HGE.out, by simp [Value.ownBlock], Chg.refl _ _, rfl, by omega, by omega⟩
      case round =>
        obtain ⟨k, vm, vt, cbs, hk, rfl, D2⟩ := hrel
        by_cases hlt : k < len
        · obtain ⟨har, rc, hR1, hR2⟩ := HRE.out (by have := r7 (by omega); omega) (by omega)
          subst har
          have r7' := r7 (by omega)
          have hRr : wr.heap[R]? = some (.cells rc 33 (0, 0)) := D2.chg.heap hR1 (by omega)
          obtain ⟨q0, q1, q2, q3⟩ := hR2 k hlt
          have e2 : wr.cell? ⟨R, k * 4 + 2, none⟩ = some (.string (GR k)) := (cell_of_block hRr _).trans q2
          have p1 : (0 : Int) ≤ (k : Int) := by omega
          have p2 : (k : Int) < (len : Int) := by omega
          have hNr : wr.heap[NB]? = some (.cells cur 21 (0, 0)) := D2.chg.heap HD.out.hN (by omega)
          have hdl := dis_len GR k
          have H12 := hide (f12_any wr wE.heap.size G Tm (.map (some F)) vm (.int .i32 (k : Int)) (.int .i64 0) vt (dis GR k) (GR k) D2.texts D2.hG (HS.out k hlt).2 (by omega) (by have := D2.chg.size; omega))
          have HD2 := hide D2
          have HRr := hide hRr
          have HNr := hide hNr
          have HQ := hide (And.intro q1 q3)
          clear D2 hRr hNr hR1 hR2 q0 q1 q2 q3
          go_wp2_with fail
          refine H12.out.mono ?_
          rintro e wa ⟨rfl, vt', A⟩
          have hfar : ∀ b, b < NB + 2 → ¬ (b = G ∨ b = Tm ∨ vt.ownBlock = some b) := by
            rintro b hb (e | e | e)
            · omega
            · omega
            · have := (HD2.out.texts.row.lt _ e).1; omega
          have hRa : wa.heap[R]? = some (.cells rc 33 (0, 0)) := A.chg.heap HRr.out (hfar R (by omega))
          have hNa : wa.heap[NB]? = some (.cells cur 21 (0, 0)) := A.chg.heap HNr.out (hfar NB (by omega))
          have d0 : wa.cell? ⟨R, k * 4 + 3, none⟩ = some (.int .i32 (LN k)) := (cell_of_block hRa _).trans HQ.out.2
          have d1 : wa.cell? ⟨R, k * 4 + 1, none⟩ = some (.int .i16 (YR k)) := (cell_of_block hRa _).trans HQ.out.1
          have d2 : wa.cell? ⟨NB, k, none⟩ = some (.int .i32 (nxt PA len k)) := (cell_of_block hNa _).trans (HD.out.done k (Nat.zero_le _) hlt)
          have HMa := hide (rel3b_marks HD2.out A).1
          have lRa : R < wa.heap.size := (Array.getElem?_eq_some_iff.1 hRa).1
          have lNa : NB < wa.heap.size := (Array.getElem?_eq_some_iff.1 hNa).1
          have sA := A.chg.size
          have sD := HD2.out.chg.size
          have H13 := hide (show ∀ wx, Chg wa wx (fun _ => False) → Calls Try.prog 13 #[.pointer (some ⟨G, 0, none⟩), .int .i32 (LN k), .int .i16 (YR k), .int .i32 ((rk (dis GR k) (GR k) : Nat) : Int), .int .i32 (nxt PA len k)] wx fun e w' => e = .returned (.tuple #[]) ∧
              ∃ vm' cbs', Added wx w' wE.heap.size G (.map (some F)) vm vt' (.map (some Tm)) (.int .i64 0) cbs k LN YR (tnum GR) (nxt PA len) vm' cbs' from
            fun wx hx => f13_marks wx wE.heap.size G k (.map (some F)) vm vt' (.map (some Tm)) (.int .i64 0) cbs LN YR (tnum GR) (nxt PA len) (HMa.out.chg hx (fun _ _ => id)) (by have := hx.size; omega) (by omega) (hx.heap A.hG id))
          have HA := hide A
          clear A hRa hNa hfar e2
          generalize rk (dis GR k) (GR k) = tk at *
          go_wp2_with fail
          go_region_held3 (fun w' => w'.cell? ⟨R, k * 4 + 3, none⟩ = some (.int .i32 (LN k)) ∧ w'.cell? ⟨R, k * 4 + 1, none⟩ = some (.int .i16 (YR k)) ∧ w'.cell? ⟨NB, k, none⟩ = some (.int .i32 (nxt PA len k)))
            (first | (exact keep3b HMa.out hx hadd (by omega) (by omega) ⟨d0, d1, d2⟩) | go_keep)
            ((go_at_call 13; have hx : Chg wa wa.drew (fun _ => False) := (Chg.refl _ _).drew; refine (H13.out _ hx).mono ?_; rintro e wb ⟨rfl, hadd⟩))
          obtain ⟨vm', cbs', B⟩ := hadd
          have HB := hide B
          clear B
          go_wp2
          go_roundw
          case rel => exact ⟨k + 1, vm', vt', cbs', by omega, by go_num, rel3b_next HD2.out HA.out hx HB.out⟩
          case measure => simp [intOf]; omega
        · obtain rfl : k = len := by omega
          have HD2 := hide D2
          have H14 := hide (f14_any wr wE.heap.size G F Tm c' k vm (.int .i32 (k : Int)) vt (.int .i64 0) cbs PA YR GR LN p year D2.marks (by omega) D2.texts.row (HD.out.first.chg D2.chg (by omega)) D2.hG hsm2 HF.out)
          clear D2
          go_wp2_with fail
          refine H14.out.mono ?_
          rintro e wb ⟨g, l, b, rfl, hfd, hwb⟩
          have HFD := hide hfd
          have HWB := hide hwb
          clear hfd hwb H14
          go_wp2_with fail
          have HB1 := hide (heap_new (w := wb) (.cells #[.string g, .int .i64 l] 38) rfl)
          have HWF := hide (HWB.out.alloc (.cells #[.string g, .int .i64 l] 38))
          have HBL := hide (HCE.out.trans (HD2.out.chg.trans HWF.out (S'' := fun j => w'.heap.size ≤ j) (fun j _ h => by omega) (fun _ _ h => h.elim)) (S'' := fun j => w'.heap.size ≤ j) (fun _ _ h => h) (fun _ _ h => h))
          clear HWB
          generalize wb.alloc (.cells #[.string g, .int .i64 l] 38) = wF at *
          generalize wb.heap.size = GB at *
          go_loopw [18] (fun i wr => ∃ j : Nat, j ≤ k ∧ i = .int .i64 j ∧ (∀ q, q < j → ¬ (PA q = p ∧ YR q = year)) ∧ Chg wF wr (fun _ => False)) (fun i _ => k - (intOf i).toNat)
          case atStart => exact ⟨0, Nat.zero_le _, rfl, fun q hq => absurd hq (Nat.not_lt_zero _), Chg.refl _ _⟩
          case round =>
            obtain ⟨i, hi, rfl, hno, hwr⟩ := hrel
            have hB1 := hwr.heap HB1.out id
            have k0 : wr.cell? ⟨GB, 0, none⟩ = some (.string g) := cell_of_block hB1 0
            have k1 : wr.cell? ⟨GB, 1, none⟩ = some (.int .i64 l) := cell_of_block hB1 1
            clear hB1
            by_cases hik : i < k
            · obtain ⟨har, rc, hR1, hR2⟩ := HRE.out (by have := r7 (by omega); omega) (by omega)
              subst har
              have r7' := r7 (by omega)
              have hRr : wr.heap[R]? = some (.cells rc 33 (0, 0)) := hwr.heap (HWF.out.heap (HD2.out.chg.heap hR1 (by omega)) id) id
              obtain ⟨q0, q1, q2, q3⟩ := hR2 i hik
              have e0 : wr.cell? ⟨R, i * 4, none⟩ = some (.string (PA i)) := (cell_of_block hRr _).trans q0
              have e1 : wr.cell? ⟨R, i * 4 + 1, none⟩ = some (.int .i16 (YR i)) := (cell_of_block hRr _).trans q1
              have e2 : wr.cell? ⟨R, i * 4 + 2, none⟩ = some (.string (GR i)) := (cell_of_block hRr _).trans q2
              have e3 : wr.cell? ⟨R, i * 4 + 3, none⟩ = some (.int .i32 (LN i)) := (cell_of_block hRr _).trans q3
              obtain ⟨_, _, y0, y1, l0, l1⟩ := HF.out i hik
              have p1 : (0 : Int) ≤ (i : Int) := by omega
              have p2 : (i : Int) < (k : Int) := by omega
              have HX := hide hwr
              have HNO := hide hno
              clear hwr hno hRr q0 q1 q2 q3 hR1 hR2
              by_cases m1 : PA i = p
              · have b1 : ((PA i).toList == p.toList) = true := by rw [beq_bytes]; simp [m1]
                by_cases m2 : YR i = year
                · have b2 : (YR i == year) = true := by simp [m2]
                  have HFF := hide (show b = true ∧ g = GR i ∧ l = LN i by
                    rcases HFD.out with ⟨h1, j, h2, h3, h4, h5, h6, h7⟩ | ⟨_, _, _, h4⟩
                    · have : j = i := by
                        rcases Nat.lt_trichotomy j i with h | h | h
                        · exact absurd ⟨h3, h4⟩ (HNO.out j h)
                        · exact h
                        · exact absurd ⟨m1, m2⟩ (h5 i h)
                      subst this
                      exact ⟨h1, h6, h7⟩
                    · exact absurd ⟨m1, m2⟩ (h4 i hik))
                  have hwl : IntKind.i64.wrap (LN i) = LN i := by rw [IntKind.wrap_i64]; omega
                  have hb := HFF.out.1
                  subst hb
                  rw [HFF.out.2.1] at k0
                  rw [HFF.out.2.2] at k1
                  have HF2 := hide HFF.out
                  clear HFF m1 m2 HFD HB1
                  generalize PA i = pa at *
                  generalize YR i = ya at *
                  generalize GR i = ga at *
                  generalize LN i = la at *
                  go_wp2_with fail
                  go_quiet (fail)
                  go_wp2
                  go_ret
                  exact ⟨rfl, (HBL.out.trans (HX.out.drewN _) (S'' := fun j => w'.heap.size ≤ j) (fun _ _ h => h) (fun _ _ h => h.elim)).below (Nat.le_refl _) (fun j hj => by omega)⟩
                · have b2 : (YR i == year) = false := by simp [m2]
                  have hno' := hide (show ∀ q, q < i + 1 → ¬ (PA q = p ∧ YR q = year) from fun q hq => by
                    by_cases e : q = i
                    · subst e; exact fun h => m2 h.2
                    · exact HNO.out q (by omega))
                  clear m1 m2
                  generalize PA i = pa at *
                  generalize YR i = ya at *
                  go_wp2
                  go_roundw
                  case rel => exact ⟨i + 1, by omega, by go_num, hno'.out, HX.out⟩
                  case measure => simp [intOf]; omega
              · have b1 : ((PA i).toList == p.toList) = false := by rw [beq_bytes]; simp [m1]
                have hno' := hide (show ∀ q, q < i + 1 → ¬ (PA q = p ∧ YR q = year) from fun q hq => by
                  by_cases e : q = i
                  · subst e; exact fun h => m1 h.1
                  · exact HNO.out q (by omega))
                clear m1
                generalize PA i = pa at *
                go_wp2
                go_roundw
                case rel => exact ⟨i + 1, by omega, by go_num, hno'.out, HX.out⟩
                case measure => simp [intOf]; omega
            · have HFF := hide (show b = false ∧ g = ⟨#[]⟩ ∧ l = 0 by
                rcases HFD.out with ⟨h1, j, h2, h3, h4, _⟩ | ⟨h1, h2, h3, _⟩
                · exact absurd ⟨h3, h4⟩ (hno j (by omega))
                · exact ⟨h1, h2, h3⟩)
              have HX := hide hwr
              have hb := HFF.out.1
              subst hb
              rw [HFF.out.2.1] at k0
              rw [HFF.out.2.2] at k1
              clear hwr hno HFF HFD HB1
              go_wp2
              go_ret
              exact ⟨rfl, (HBL.out.trans HX.out (S'' := fun j => w'.heap.size ≤ j) (fun _ _ h => h) (fun _ _ h => h.elim)).below (Nat.le_refl _) (fun j hj => by omega)⟩
    | succ i =>
      rw [show (((i + 1 : Nat) : Int) - 1) = (i : Int) by omega]
      obtain ⟨har, rc, hR1, hR2⟩ := HR3.out (by omega)
      subst har
      have r7' := r7 (by omega)
      have hRr : wr.heap[R]? = some (.cells rc 33 (0, 0)) := D.chg.heap hR1 (by omega)
      obtain ⟨q0, _⟩ := hR2 i (by omega)
      have e0 : wr.cell? ⟨R, i * 4, none⟩ = some (.string (PA i)) := (cell_of_block hRr _).trans q0
      have hps := (HS.out i (by omega)).1
      have p1 : (0 : Int) ≤ (i : Int) := by omega
      have p2 : (i : Int) < (len : Int) := by omega
      have hl := D.later.look (s := PA i) (by unfold maxLen; omega)
      have hnx : nxt PA len i = (fst PA len (i + 1) (PA i)).getD 0 := rfl
      have HD := hide D
      have HRr := hide hRr
      have Hq0 := hide q0
      have hcl := D.cl
      have hcl' := D.cl'
      have hwf : (Lit.int .i32 (i : Int)).wf = true := wf_i32 (by omega) (by omega)
      obtain ⟨d, hd⟩ : ∃ d, (if (fst PA len (i + 1) (PA i)).isSome then c else c + 1) = d := ⟨_, rfl⟩
      have hdl : d ≤ c + 1 := by rw [← hd]; split <;> omega
      have Hd := hide hd
      have hRN : R ≠ NB := by omega
      have z1 : wr.cell? ⟨NB, i, none⟩ = some (.int .i32 0) := (cell_of_block D.hN i).trans (D.todo i (by omega))
      have z2 : wr.frozen? ⟨NB, i, none⟩ = false := frozen_of_block D.hN i
      clear hd hRr q0 hR1 hR2 D
      cases hfx : fst PA len (i + 1) (PA i) with
      | none =>
        rw [hfx] at hl hnx
        simp only [Option.getD_none, Option.isSome_none] at hl hnx
        have hcur : cur = cur.setIfInBounds i (.int .i32 (nxt PA len i)) := by
          rw [hnx]
          apply Array.ext_getElem?
          intro j
          by_cases ej : j = i
          · subst ej
            rw [HD.out.todo j (by omega), Array.getElem?_setIfInBounds_self_of_lt (by have := HD.out.sz; omega)]
          · rw [Array.getElem?_setIfInBounds_ne (by omega)]
        have hc4 : Chg wr wr (fun j => j = NB) := Chg.refl _ _
        have HN4 := hide (show wr.heap[NB]? = some (.cells (cur.setIfInBounds i (.int .i32 (nxt PA len i))) 21 (0, 0)) by rw [← hcur]; exact HD.out.hN)
        have HMl := hide HD.out.later
        clear hfx hnx hcur
        go_wp2_with (at_mapUpdate; refine wpList_smap_store _ rfl _ _ _ rfl (NB + 1) c (fst PA len (i + 1)) rfl HMl.out (by unfold maxLen; omega) (PA i) (by unfold maxLen; omega) (i : Int) rfl rfl hwf d Hd.out ?_)
        intro w5 hm5 hg5
        have hc5 : Chg wr w5 (fun j => j = NB + 1) := Chg.ofGrown hg5 (fun k h => (Option.some.inj h).symm)
        have e5 : w5.cell? ⟨R, i * 4, none⟩ = some (.string (PA i)) := (cell_of_block (hc5.heap (hc4.heap HRr.out (by omega)) (by omega)) _).trans Hq0.out
        have H11 := hide (f11_any w5 G F c' (.slice none 0 0) (.int .i32 0) (.slice none 0 0) (.map (some Tm)) (.int .i64 0) (fst PA len (i + 1)) ((HD.out.first.chg hc4 (by omega)).chg hc5 (by omega))
          (hc5.heap (hc4.heap (HD.out.chg.heap HG.out (by omega)) (by omega)) (by omega)) (PA i) hps (i : Int) (by omega) (by omega) (by omega))
        have HM5 := hide hm5
        have HC5 := hide hc5
        have HC4 := hide hc4
        clear hm5 hg5 hc5 hc4
        go_wp2_with fail
        refine H11.out.mono ?_
        rintro e w6 ⟨rfl, d', hd', hm6, hc6⟩
        have HM6 := hide hm6
        have HC6 := hide hc6
        clear hm6 hc6
        go_wp2
        go_roundw
        case rel => exact ⟨i, _, d, d', by omega, rfl, rel3a_next HD.out (by omega) HC4.out HN4.out rfl HC5.out HM5.out hdl HC6.out HM6.out hd'⟩
        case measure => first | (simp [intOf]; done) | (simp [intOf]; omega)
      | some v =>
        rw [hfx] at hl hnx
        simp only [Option.getD_some, Option.isSome_some] at hl hnx
        have hc4 : Chg wr (wr.setCell ⟨NB, i, none⟩ (.int .i32 v)) (fun j => j = NB) := Chg.ofSet _ _ _ rfl
        have HN4 := hide (show (wr.setCell ⟨NB, i, none⟩ (.int .i32 v)).heap[NB]? = some (.cells (cur.setIfInBounds i (.int .i32 (nxt PA len i))) 21 (0, 0)) by rw [set_of_block HD.out.hN, hnx])
        have HMl := hide (HD.out.later.chg hc4 (by omega))
        clear hfx hnx
        go_wp2_with (at_mapUpdate; refine wpList_smap_store _ rfl _ _ _ rfl (NB + 1) c (fst PA len (i + 1)) rfl HMl.out (by unfold maxLen; omega) (PA i) (by unfold maxLen; omega) (i : Int) rfl rfl hwf d Hd.out ?_)
        intro w5 hm5 hg5
        have hc5 : Chg (wr.setCell ⟨NB, i, none⟩ (.int .i32 v)) w5 (fun j => j = NB + 1) := Chg.ofGrown hg5 (fun k h => (Option.some.inj h).symm)
        have e5 : w5.cell? ⟨R, i * 4, none⟩ = some (.string (PA i)) := (cell_of_block (hc5.heap (hc4.heap HRr.out (by omega)) (by omega)) _).trans Hq0.out
        have H11 := hide (f11_any w5 G F c' (.slice none 0 0) (.int .i32 0) (.slice none 0 0) (.map (some Tm)) (.int .i64 0) (fst PA len (i + 1)) ((HD.out.first.chg hc4 (by omega)).chg hc5 (by omega))
          (hc5.heap (hc4.heap (HD.out.chg.heap HG.out (by omega)) (by omega)) (by omega)) (PA i) hps (i : Int) (by omega) (by omega) (by omega))
        have HM5 := hide hm5
        have HC5 := hide hc5
        have HC4 := hide hc4
        clear hm5 hg5 hc5 hc4
        go_wp2_with fail
        refine H11.out.mono ?_
        rintro e w6 ⟨rfl, d', hd', hm6, hc6⟩
        have HM6 := hide hm6
        have HC6 := hide hc6
        clear hm6 hc6
        go_wp2
        go_roundw
        case rel => exact ⟨i, _, d, d', by omega, rfl, rel3a_next HD.out (by omega) HC4.out HN4.out rfl HC5.out HM5.out hdl HC6.out HM6.out hd'⟩
        case measure => first | (simp [intOf]; done) | (simp [intOf]; omega)
set_option maxRecDepth 100000 in
set_option maxHeartbeats 1000000 in
/-- THE WALK -/
theorem f3_walk (w : World) (a : Option Addr) (len cap : Nat) (PA : Nat → ByteArray) (YR : Nat → Int) (GR : Nat → ByteArray) (LN : Nat → Int) (p : ByteArray) (year : Int) (h : IsFRows w a len cap PA YR GR LN) (hf : FFit len PA YR GR LN)
    (hp : p.size ≤ maxLen) (hy0 : -9223372036854775808 ≤ year) (hy1 : year ≤ 9223372036854775807) :
    Calls Try.prog 3 #[.slice a len cap, .string p, .int .i64 year] w fun e w' => e = .returned (.bool true) ∧ Below w.heap.size w w' := by
  by_cases hq : len ≤ 16384 ∧ FSmall len PA GR p
  · exact f3_core w a len cap PA YR GR LN p year h hf hq.1 hq.2 hy0 hy1
  · have HF := hide (f7_any w a len cap PA YR GR LN p year h hf hp)
    have hml := h.len
    have HQ := hide hq
    unfold maxLen at hml
    clear h hq hf hp
    go_enter Try.func3, Try.ntmps3
    go_wp2_with fail
    refine HF.out.mono ?_
    rintro e w' ⟨rfl, r, rfl, hr⟩
    cases r with
    | false =>
      go_wp2
      go_ret
      exact ⟨rfl, Below.refl _ _⟩
    | true =>
      have hl : (16384 : Int) < (len : Int) := by
        rcases Nat.lt_or_ge 16384 len with h | h
        · omega
        · exact absurd ⟨h, hr rfl⟩ HQ.out
      clear hr
      go_wp2
      go_ret
      exact ⟨rfl, Below.refl _ _⟩

end Go.Proofs.Qxb6000095a
