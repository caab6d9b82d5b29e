import Derived.Test.Qxb6000182aPl
import Derived.Test.Qxb6000182aClone
import Derived.BigRegion
import Derived.BigQuiet
import Derived.Deep.RegionHeld3
import Derived.Deep.DeepCutAuto
/-! (*codec).place computes a plain function of the codec and the bytes. -/
namespace Go.Proofs.Qxb6000182a
open Go.RowKit
set_option linter.unusedSimpArgs false
set_option linter.unusedVariables false
attribute [local go_sem ↓] Go.wp_at_zero Go.wp_at_succ

structure Cod where
  sec : Int
  line : Int
  series : Int
  secStep : Int
  step : Int
structure Plc where
  series : Int
  line : Int
  tsec : Int
  tnsec : Int
  asec : Int
  ansec : Int
  flags : Int

/-- a codec and a place in memory -/
structure St (w0 w : World) (C P : Nat) (c : Cod) (p : Plc) : Prop where
  hC : w.heap[C]? = some (.cells #[.int .i64 c.sec, .int .i64 c.line, .int .i64 c.series, .int .i64 c.secStep, .int .i64 c.step] 65 (0, 0))
  hP : w.heap[P]? = some (.cells #[.int .i64 p.series, .int .i64 p.line, .int .i64 p.tsec, .int .i32 p.tnsec, .int .i64 p.asec, .int .i32 p.ansec, .int .u8 p.flags] 69 (0, 0))
  ne : C ≠ P
  chg : Chg w0 w (fun k => k = C ∨ k = P)

section
variable {w0 w : World} {C P : Nat} {c : Cod} {p : Plc} (h : St w0 w C P c p)
include h
theorem St.cP (j : Nat) (u : Value) (p' : Plc) (hp : #[Value.int .i64 p.series, .int .i64 p.line, .int .i64 p.tsec, .int .i32 p.tnsec, .int .i64 p.asec, .int .i32 p.ansec, .int .u8 p.flags].setIfInBounds j u = #[.int .i64 p'.series, .int .i64 p'.line, .int .i64 p'.tsec, .int .i32 p'.tnsec, .int .i64 p'.asec, .int .i32 p'.ansec, .int .u8 p'.flags]) :
    St w0 (w.setCell ⟨P, j, none⟩ u) C P c p' :=
  ⟨by rw [Below.heap_setCell _ _ _ _ h.ne]; exact h.hC, by rw [set_of_block h.hP, hp], h.ne, h.chg.setCell _ _ (.inr rfl)⟩
theorem St.cC (j : Nat) (u : Value) (c' : Cod) (hp : #[Value.int .i64 c.sec, .int .i64 c.line, .int .i64 c.series, .int .i64 c.secStep, .int .i64 c.step].setIfInBounds j u = #[.int .i64 c'.sec, .int .i64 c'.line, .int .i64 c'.series, .int .i64 c'.secStep, .int .i64 c'.step]) :
    St w0 (w.setCell ⟨C, j, none⟩ u) C P c' p :=
  ⟨by rw [set_of_block h.hC, hp], by rw [Below.heap_setCell _ _ _ _ h.ne.symm]; exact h.hP, h.ne, h.chg.setCell _ _ (.inl rfl)⟩
theorem St.p0 (v : Int) : St w0 (w.setCell ⟨P, 0, none⟩ (.int .i64 v)) C P c { p with series := v } := h.cP 0 _ _ rfl
theorem St.p1 (v : Int) : St w0 (w.setCell ⟨P, 1, none⟩ (.int .i64 v)) C P c { p with line := v } := h.cP 1 _ _ rfl
theorem St.p2 (v : Int) : St w0 (w.setCell ⟨P, 2, none⟩ (.int .i64 v)) C P c { p with tsec := v } := h.cP 2 _ _ rfl
theorem St.p3 (v : Int) : St w0 (w.setCell ⟨P, 3, none⟩ (.int .i32 v)) C P c { p with tnsec := v } := h.cP 3 _ _ rfl
theorem St.p4 (v : Int) : St w0 (w.setCell ⟨P, 4, none⟩ (.int .i64 v)) C P c { p with asec := v } := h.cP 4 _ _ rfl
theorem St.p5 (v : Int) : St w0 (w.setCell ⟨P, 5, none⟩ (.int .i32 v)) C P c { p with ansec := v } := h.cP 5 _ _ rfl
theorem St.p6 (v : Int) : St w0 (w.setCell ⟨P, 6, none⟩ (.int .u8 v)) C P c { p with flags := v } := h.cP 6 _ _ rfl
theorem St.c0 (v : Int) : St w0 (w.setCell ⟨C, 0, none⟩ (.int .i64 v)) C P { c with sec := v } p := h.cC 0 _ _ rfl
theorem St.c1 (v : Int) : St w0 (w.setCell ⟨C, 1, none⟩ (.int .i64 v)) C P { c with line := v } p := h.cC 1 _ _ rfl
theorem St.c2 (v : Int) : St w0 (w.setCell ⟨C, 2, none⟩ (.int .i64 v)) C P { c with series := v } p := h.cC 2 _ _ rfl
theorem St.c3 (v : Int) : St w0 (w.setCell ⟨C, 3, none⟩ (.int .i64 v)) C P { c with secStep := v } p := h.cC 3 _ _ rfl
theorem St.c4 (v : Int) : St w0 (w.setCell ⟨C, 4, none⟩ (.int .i64 v)) C P { c with step := v } p := h.cC 4 _ _ rfl
theorem St.drew : St w0 w.drew C P c p := ⟨h.hC, h.hP, h.ne, h.chg.drew⟩
theorem St.lies {a : Option Addr} {l : List Nat} (hl : Lies w0 a l) (hn : ∀ R, a = some ⟨R, 0, none⟩ → R ≠ C ∧ R ≠ P) : Lies w a l :=
  hl.chg h.chg (fun R hR e => by have := hn R hR; omega)
end

/-- p.series, where it is read -/
def rd1 (l : List Nat) (f series : Int) : Int × Nat := if bits .and .u8 f 64 = 0 then (wrap64 ((uvar l 1).1 : Int), (uvar l 1).2) else (series, 1)
/-- the two steps, where they are read -/
def rd2 (l : List Nat) (f step secStep : Int) (i : Nat) : Int × Int × Nat := if bits .and .u8 f 128 = 0 then (unz (uvar l i).1, unz (uvar l (uvar l i).2).1, (uvar l (uvar l i).2).2) else (step, secStep, i)
/-- the nanoseconds, where they are read -/
def rd3 (l : List Nat) (f : Int) (i : Nat) : Int × Nat := if bits .and .u8 f 8 = 0 then (wrap32 ((uvar l i).1 : Int), (uvar l i).2) else (0, i)
/-- the time at which it came, where it is late -/
def rd4 (l : List Nat) (f ts tn : Int) (i : Nat) : Int × Int × Nat :=
  if bits .and .u8 f 4 = 0 then (ts, tn, i) else (wrap64 (ts - wrap64 ((uvar l i).1 : Int)), rd3 l f (uvar l i).2)

set_option maxRecDepth 100000 in
set_option maxHeartbeats 4000000 in
theorem f41_any (w : World) (a : Option Addr) (l : List Nat) (n cap C P : Nat) (c : Cod) (p : Plc) (hln : l.length = n) (hlen : n ≤ 1073741824) (hpos : 0 < n) (h : Lies w a l) (hS : St w w C P c p) (hn : ∀ R, a = some ⟨R, 0, none⟩ → R ≠ C ∧ R ≠ P)
    (f s1 st ss tn av an : Int) (i1 i2 i3 i4 : Nat) (hf : f = (gb l 0 : Int)) (h1 : (s1, i1) = rd1 l f c.series) (h2 : (st, ss, i2) = rd2 l f c.step c.secStep i1) (h3 : (tn, i3) = rd3 l f i2)
    (h4 : (av, an, i4) = rd4 l f (wrap64 (c.sec + ss)) tn i3) (b1 : i1 ≤ n + 1) (b2 : i2 ≤ n + 1) (b3 : i3 ≤ n + 1) (b4 : i4 ≤ n + 1) (r : Int) (c' : Cod)
    (hr1 : i4 ≤ n → r = i4 ∧ c' = ⟨wrap64 (c.sec + ss), wrap64 (c.line + st), s1, ss, st⟩) (hr2 : ¬ i4 ≤ n → r = 0 ∧ c' = ⟨c.sec, c.line, c.series, ss, st⟩) :
    Calls Try.prog 41 #[.pointer (some ⟨C, 0, none⟩), .slice a n cap, .pointer (some ⟨P, 0, none⟩)] w fun e w' =>
      e = .returned (.int .i64 r) ∧ St w w' C P c' ⟨s1, wrap64 (c.line + st), wrap64 (c.sec + ss), tn, av, an, f⟩ := by
  obtain ⟨R, rfl, hc⟩ := h.2 (by omega)
  have hRn := hn R rfl
  have hc0 := hc 0 (by omega)
  rw [← hf] at hc0
  have hne := hS.ne
  have hne' := hne.symm
  have hRC := hRn.1
  have hRP := hRn.2
  have kC2 : w.cell? ⟨C, 2, none⟩ = some (.int .i64 c.series) := cell_of_block hS.hC 2
  have fP6 : w.frozen? ⟨P, 6, none⟩ = false := frozen_of_block hS.hP 6
  have fP0 : w.frozen? ⟨P, 0, none⟩ = false := frozen_of_block hS.hP 0
  have kP6 : w.cell? ⟨P, 6, none⟩ = some (.int .u8 p.flags) := cell_of_block hS.hP 6
  have kP0 : w.cell? ⟨P, 0, none⟩ = some (.int .i64 p.series) := cell_of_block hS.hP 0
  have H39 := hide (fun (w' : World) (i : Nat) (hi : i ≤ 9223372036854775807) (hL : Lies w' (some ⟨R, 0, none⟩) l) => f39_any w' (some ⟨R, 0, none⟩) l cap i (by omega) hi hL)
  rw [hln] at H39
  have HU := hide (fun i => uvar_lt l i)
  have HUL : Hid (∀ i, (uvar l i).2 ≤ n + 1) := hide (fun i => by have := uvar_le l i; omega)
  have HL := hide h
  have HS := hide hS
  have HN := hide hn
  have H1 := hide h1
  have H2 := hide h2
  have H3 := hide h3
  have H4 := hide h4
  have HR1 := hide hr1
  have HR2 := hide hr2
  clear hr1 hr2
  have hlz : ¬ (n : Int) = 0 := by omega
  clear h hS hc hn h1 h2 h3 h4 hRn hf hln
  go_enter Try.func41, Try.ntmps41
  go_upto_if 29 with fail
  have S1 := hide ((HS.out.p6 f).p0 c.series)
  generalize (w.setCell ⟨P, 6, none⟩ (.int .u8 f)).setCell ⟨P, 0, none⟩ (.int .i64 c.series) = w1 at S1 ⊢
  have gP0 : w1.frozen? ⟨P, 0, none⟩ = false := frozen_of_block S1.out.hP 0
  have gk0 : w1.cell? ⟨P, 0, none⟩ = some (.int .i64 c.series) := cell_of_block S1.out.hP 0
  clear kC2 fP6 fP0 kP6 kP0 hc0
  go_cut [8, 9] (fun i v w' => ∃ V : Nat, i = .int .i64 (i1 : Int) ∧ v = .int .u64 (V : Int) ∧ Hid (St w w' C P c { p with flags := f, series := s1 }))
  case first =>
    by_cases hz : bits .and .u8 f 64 = 0
    · have hz' : (bits .and .u8 f 64 == 0) = true := by simp [hz]
      have e1 := H1.out
      rw [rd1, if_pos hz] at e1
      obtain ⟨rfl, rfl⟩ := Prod.mk.inj e1
      clear e1 H2 H3 H4
      have hu := HU.out 1
      go_wp2_with fail
      refine (H39.out w1 1 (by omega) (S1.out.lies HL.out HN.out)).mono ?_
      rintro e w' ⟨rfl, rfl⟩
      generalize uvar l 1 = u at *
      go_wp2
      go_meet
      case rel => exact ⟨u.1, rfl, rfl, hide (S1.out.p0 _)⟩
    · have hz' : (bits .and .u8 f 64 == 0) = false := by simp [hz]
      have e1 := H1.out
      rw [rd1, if_neg hz] at e1
      obtain ⟨rfl, rfl⟩ := Prod.mk.inj e1
      go_wp2_with fail
      go_meet
      case rel => exact ⟨0, rfl, rfl, S1⟩
  case rest =>
    obtain ⟨V, rfl, rfl, S2⟩ := hcut
    clear S1 gP0 gk0 H1
    generalize wc = w2 at *
    have gC4 : w2.frozen? ⟨C, 4, none⟩ = false := frozen_of_block S2.out.hC 4
    have gC3 : w2.frozen? ⟨C, 3, none⟩ = false := frozen_of_block S2.out.hC 3
    have kC4 : w2.cell? ⟨C, 4, none⟩ = some (.int .i64 c.step) := cell_of_block S2.out.hC 4
    have kC3 : w2.cell? ⟨C, 3, none⟩ = some (.int .i64 c.secStep) := cell_of_block S2.out.hC 3
    go_upto_if 43 with fail
    go_cut [8, 9] (fun i v w' => ∃ V : Nat, i = .int .i64 (i2 : Int) ∧ v = .int .u64 (V : Int) ∧ Hid (St w w' C P { c with step := st, secStep := ss } { p with flags := f, series := s1 }))
    case first =>
      by_cases hz : bits .and .u8 f 128 = 0
      · have hz' : (bits .and .u8 f 128 == 0) = true := by simp [hz]
        have e1 := H2.out
        rw [rd2, if_pos hz] at e1
        obtain ⟨rfl, e2⟩ := Prod.mk.inj e1
        obtain ⟨rfl, rfl⟩ := Prod.mk.inj e2
        clear e1 e2 H2 H3 H4
        have hu := HU.out i1
        have hul := HUL.out i1
        have hu' := HU.out (uvar l i1).2
        go_wp2_with fail
        refine (H39.out w2 i1 (by omega) (S2.out.lies HL.out HN.out)).mono ?_
        rintro e w' ⟨rfl, rfl⟩
        have H39b := hide (fun w' => H39.out w' (uvar l i1).2 (by omega))
        generalize uvar l i1 = u at *
        go_wp2_with fail
        refine (f43_any w' u.1 hu).mono ?_
        rintro e w'' ⟨rfl, rfl⟩
        go_wp2_with fail
        have S3 := hide (S2.out.c4 (unz u.1))
        refine (H39b.out _ (S3.out.lies HL.out HN.out)).mono ?_
        rintro e w' ⟨rfl, rfl⟩
        generalize uvar l u.2 = u2 at *
        go_wp2_with fail
        refine (f43_any _ u2.1 hu').mono ?_
        rintro e w'' ⟨rfl, rfl⟩
        go_wp2_with fail
        go_meet
        case rel => exact ⟨u2.1, rfl, rfl, hide (S3.out.c3 _)⟩
      · have hz' : (bits .and .u8 f 128 == 0) = false := by simp [hz]
        have e1 := H2.out
        rw [rd2, if_neg hz] at e1
        obtain ⟨rfl, e2⟩ := Prod.mk.inj e1
        obtain ⟨rfl, rfl⟩ := Prod.mk.inj e2
        clear e1 e2
        go_wp2_with fail
        go_meet
        case rel => exact ⟨V, rfl, rfl, S2⟩
    case rest =>
      obtain ⟨V2, rfl, rfl, S3⟩ := hcut
      clear S2 gC4 gC3 kC4 kC3 H2
      generalize wc = w3 at *
      have kC0 : w3.cell? ⟨C, 0, none⟩ = some (.int .i64 c.sec) := cell_of_block S3.out.hC 0
      have kC1 : w3.cell? ⟨C, 1, none⟩ = some (.int .i64 c.line) := cell_of_block S3.out.hC 1
      have kC3 : w3.cell? ⟨C, 3, none⟩ = some (.int .i64 ss) := cell_of_block S3.out.hC 3
      have kC4 : w3.cell? ⟨C, 4, none⟩ = some (.int .i64 st) := cell_of_block S3.out.hC 4
      have kP1 : w3.cell? ⟨P, 1, none⟩ = some (.int .i64 p.line) := cell_of_block S3.out.hP 1
      have kP2 : w3.cell? ⟨P, 2, none⟩ = some (.int .i64 p.tsec) := cell_of_block S3.out.hP 2
      have kP3 : w3.cell? ⟨P, 3, none⟩ = some (.int .i32 p.tnsec) := cell_of_block S3.out.hP 3
      have fP1 : w3.frozen? ⟨P, 1, none⟩ = false := frozen_of_block S3.out.hP 1
      have fP2 : w3.frozen? ⟨P, 2, none⟩ = false := frozen_of_block S3.out.hP 2
      have fP3 : w3.frozen? ⟨P, 3, none⟩ = false := frozen_of_block S3.out.hP 3
      go_wp2_with fail
      go_region
      go_wp2_with fail
      have S4 := hide ((S3.out.p1 (wrap64 (c.line + st))).drew)
      generalize (w3.setCell ⟨P, 1, none⟩ (.int .i64 (wrap64 (c.line + st)))).drew = w4 at S4 ⊢
      clear kC0 kC1 kC3 kC4 kP1 kP2 kP3 fP1 fP2 fP3 S3
      have kC0 : w4.cell? ⟨C, 0, none⟩ = some (.int .i64 c.sec) := cell_of_block S4.out.hC 0
      have kC3 : w4.cell? ⟨C, 3, none⟩ = some (.int .i64 ss) := cell_of_block S4.out.hC 3
      have kP2 : w4.cell? ⟨P, 2, none⟩ = some (.int .i64 p.tsec) := cell_of_block S4.out.hP 2
      have kP3 : w4.cell? ⟨P, 3, none⟩ = some (.int .i32 p.tnsec) := cell_of_block S4.out.hP 3
      have fP2 : w4.frozen? ⟨P, 2, none⟩ = false := frozen_of_block S4.out.hP 2
      have fP3 : w4.frozen? ⟨P, 3, none⟩ = false := frozen_of_block S4.out.hP 3
      go_region
      go_upto_if 93 with fail
      have S5 := hide (((S4.out.p2 (wrap64 (c.sec + ss))).p3 0).drew)
      generalize ((w4.setCell ⟨P, 2, none⟩ (.int .i64 (wrap64 (c.sec + ss)))).setCell ⟨P, 3, none⟩ (.int .i32 0)).drew = w5 at S5 ⊢
      clear kC0 kC3 kP2 kP3 fP2 fP3 S4
      have kP3 : w5.cell? ⟨P, 3, none⟩ = some (.int .i32 0) := cell_of_block S5.out.hP 3
      have fP3 : w5.frozen? ⟨P, 3, none⟩ = false := frozen_of_block S5.out.hP 3
      go_cut [8, 9] (fun i v w' => ∃ V : Nat, i = .int .i64 (i3 : Int) ∧ v = .int .u64 (V : Int) ∧ Hid (St w w' C P { c with step := st, secStep := ss } { p with flags := f, series := s1, line := wrap64 (c.line + st), tsec := wrap64 (c.sec + ss), tnsec := tn }))
      case first =>
        by_cases hz : bits .and .u8 f 8 = 0
        · have hz' : (bits .and .u8 f 8 == 0) = true := by simp [hz]
          have e1 := H3.out
          rw [rd3, if_pos hz] at e1
          obtain ⟨rfl, rfl⟩ := Prod.mk.inj e1
          clear e1 H3 H4
          have hu := HU.out i2
          go_wp2_with fail
          refine (H39.out w5 i2 (by omega) (S5.out.lies HL.out HN.out)).mono ?_
          rintro e w' ⟨rfl, rfl⟩
          generalize uvar l i2 = u at *
          go_wp2_with fail
          go_meet
          case rel => exact ⟨u.1, rfl, rfl, hide (S5.out.p3 _)⟩
        · have hz' : (bits .and .u8 f 8 == 0) = false := by simp [hz]
          have e1 := H3.out
          rw [rd3, if_neg hz] at e1
          obtain ⟨rfl, rfl⟩ := Prod.mk.inj e1
          go_wp2_with fail
          go_meet
          case rel => exact ⟨V2, rfl, rfl, S5⟩
      case rest =>
        obtain ⟨V3, rfl, rfl, S6⟩ := hcut
        clear S5 kP3 fP3 H3
        generalize wc = w6 at *
        have kP2 : w6.cell? ⟨P, 2, none⟩ = some (.int .i64 (wrap64 (c.sec + ss))) := cell_of_block S6.out.hP 2
        have kP3 : w6.cell? ⟨P, 3, none⟩ = some (.int .i32 tn) := cell_of_block S6.out.hP 3
        have kP4 : w6.cell? ⟨P, 4, none⟩ = some (.int .i64 p.asec) := cell_of_block S6.out.hP 4
        have kP5 : w6.cell? ⟨P, 5, none⟩ = some (.int .i32 p.ansec) := cell_of_block S6.out.hP 5
        have fP4 : w6.frozen? ⟨P, 4, none⟩ = false := frozen_of_block S6.out.hP 4
        have fP5 : w6.frozen? ⟨P, 5, none⟩ = false := frozen_of_block S6.out.hP 5
        go_upto_if 115 with fail
        have S7 := hide ((S6.out.p4 (wrap64 (c.sec + ss))).p5 tn)
        generalize (w6.setCell ⟨P, 4, none⟩ (.int .i64 (wrap64 (c.sec + ss)))).setCell ⟨P, 5, none⟩ (.int .i32 tn) = w7 at S7 ⊢
        clear kP2 kP3 kP4 kP5 fP4 fP5 S6
        have kP2 : w7.cell? ⟨P, 2, none⟩ = some (.int .i64 (wrap64 (c.sec + ss))) := cell_of_block S7.out.hP 2
        have kP4 : w7.cell? ⟨P, 4, none⟩ = some (.int .i64 (wrap64 (c.sec + ss))) := cell_of_block S7.out.hP 4
        have kP5 : w7.cell? ⟨P, 5, none⟩ = some (.int .i32 tn) := cell_of_block S7.out.hP 5
        have fP4 : w7.frozen? ⟨P, 4, none⟩ = false := frozen_of_block S7.out.hP 4
        have fP5 : w7.frozen? ⟨P, 5, none⟩ = false := frozen_of_block S7.out.hP 5
        go_cut [8, 9] (fun i v w' => ∃ V : Nat, i = .int .i64 (i4 : Int) ∧ v = .int .u64 (V : Int) ∧ Hid (St w w' C P { c with step := st, secStep := ss } ⟨s1, wrap64 (c.line + st), wrap64 (c.sec + ss), tn, av, an, f⟩))
        case first =>
          by_cases hz : bits .and .u8 f 4 = 0
          · have hz' : (bits .and .u8 f 4 == 0) = true := by simp [hz]
            have e1 := H4.out
            rw [rd4, if_pos hz] at e1
            obtain ⟨rfl, e2⟩ := Prod.mk.inj e1
            obtain ⟨rfl, rfl⟩ := Prod.mk.inj e2
            clear e1 e2 H4
            go_wp2_with fail
            go_meet
            case rel => exact ⟨V3, rfl, rfl, S7⟩
          · have hz' : (bits .and .u8 f 4 == 0) = false := by simp [hz]
            have e1 := H4.out
            rw [rd4, if_neg hz] at e1
            obtain ⟨rfl, e2⟩ := Prod.mk.inj e1
            have hu := HU.out i3
            have hul := HUL.out i3
            have H5 := hide e2
            clear e1 e2 H4
            by_cases hy : bits .and .u8 f 8 = 0
            · have hy' : (bits .and .u8 f 8 == 0) = true := by simp [hy]
              have e1 := H5.out
              rw [rd3, if_pos hy] at e1
              obtain ⟨rfl, rfl⟩ := Prod.mk.inj e1
              have hu' := HU.out (uvar l i3).2
              clear e1 H5
              go_wp2_with fail
              refine (H39.out w7 i3 (by omega) (S7.out.lies HL.out HN.out)).mono ?_
              rintro e w' ⟨rfl, rfl⟩
              have H39b := hide (fun w' => H39.out w' (uvar l i3).2 (by omega))
              generalize uvar l i3 = u at *
              go_wp2_with fail
              have S8 := hide ((S7.out.p4 (wrap64 (wrap64 (c.sec + ss) - wrap64 (u.1 : Int)))).p5 0)
              refine (H39b.out _ (S8.out.lies HL.out HN.out)).mono ?_
              rintro e w'' ⟨rfl, rfl⟩
              generalize uvar l u.2 = u2 at *
              go_wp2_with fail
              go_meet
              case rel => exact ⟨u2.1, rfl, rfl, hide (S8.out.p5 _)⟩
            · have hy' : (bits .and .u8 f 8 == 0) = false := by simp [hy]
              have e1 := H5.out
              rw [rd3, if_neg hy] at e1
              obtain ⟨rfl, rfl⟩ := Prod.mk.inj e1
              clear e1 H5
              go_wp2_with fail
              refine (H39.out w7 i3 (by omega) (S7.out.lies HL.out HN.out)).mono ?_
              rintro e w' ⟨rfl, rfl⟩
              generalize uvar l i3 = u at *
              go_wp2_with fail
              go_meet
              case rel => exact ⟨u.1, rfl, rfl, hide ((S7.out.p4 (wrap64 (wrap64 (c.sec + ss) - wrap64 (u.1 : Int)))).p5 0)⟩
        case rest =>
          obtain ⟨V4, rfl, rfl, S9⟩ := hcut
          clear S7 kP2 kP4 kP5 fP4 fP5 H4
          generalize wc = w9 at *
          by_cases hle : i4 ≤ n
          · have hle' : ¬ (n : Int) < (i4 : Int) := by omega
            obtain ⟨rfl, rfl⟩ := HR1.out hle
            clear HR1 HR2
            have kP0 : w9.cell? ⟨P, 0, none⟩ = some (.int .i64 s1) := cell_of_block S9.out.hP 0
            have kP1 : w9.cell? ⟨P, 1, none⟩ = some (.int .i64 (wrap64 (c.line + st))) := cell_of_block S9.out.hP 1
            have kP2 : w9.cell? ⟨P, 2, none⟩ = some (.int .i64 (wrap64 (c.sec + ss))) := cell_of_block S9.out.hP 2
            have kC0 : w9.cell? ⟨C, 0, none⟩ = some (.int .i64 c.sec) := cell_of_block S9.out.hC 0
            have kC1 : w9.cell? ⟨C, 1, none⟩ = some (.int .i64 c.line) := cell_of_block S9.out.hC 1
            have kC2 : w9.cell? ⟨C, 2, none⟩ = some (.int .i64 c.series) := cell_of_block S9.out.hC 2
            have fC0 : w9.frozen? ⟨C, 0, none⟩ = false := frozen_of_block S9.out.hC 0
            have fC1 : w9.frozen? ⟨C, 1, none⟩ = false := frozen_of_block S9.out.hC 1
            have fC2 : w9.frozen? ⟨C, 2, none⟩ = false := frozen_of_block S9.out.hC 2
            go_wp2_with fail
            go_region
            go_wp2
            go_ret
            exact ⟨rfl, (((S9.out.c0 _).c1 _).c2 _).drew⟩
          · have hle' : (n : Int) < (i4 : Int) := by omega
            obtain ⟨rfl, rfl⟩ := HR2.out hle
            clear HR1 HR2
            go_wp2
            go_ret
            exact ⟨rfl, S9.out⟩

set_option maxRecDepth 100000 in
theorem f41_empty (w : World) (a : Option Addr) (cap C P : Nat) :
    Calls Try.prog 41 #[.pointer (some ⟨C, 0, none⟩), .slice a 0 cap, .pointer (some ⟨P, 0, none⟩)] w fun e w' => e = .returned (.int .i64 0) ∧ w' = w := by
  go_enter Try.func41, Try.ntmps41
  go_wp2
  go_ret
  exact ⟨rfl, rfl⟩

/-- What place answers, and what it leaves in the codec and in the place, said plainly. -/
def Got (l : List Nat) (c : Cod) (p : Plc) (r : Int) (c' : Cod) (p' : Plc) : Prop :=
  (l.length = 0 ∧ r = 0 ∧ c' = c ∧ p' = p) ∨
  (0 < l.length ∧ ∃ (f s1 st ss tn av an : Int) (i1 i2 i3 i4 : Nat), f = (gb l 0 : Int) ∧ (s1, i1) = rd1 l f c.series ∧ (st, ss, i2) = rd2 l f c.step c.secStep i1 ∧ (tn, i3) = rd3 l f i2 ∧
    (av, an, i4) = rd4 l f (wrap64 (c.sec + ss)) tn i3 ∧ (i4 ≤ l.length → r = i4 ∧ c' = ⟨wrap64 (c.sec + ss), wrap64 (c.line + st), s1, ss, st⟩) ∧ (¬ i4 ≤ l.length → r = 0 ∧ c' = ⟨c.sec, c.line, c.series, ss, st⟩) ∧
    p' = ⟨s1, wrap64 (c.line + st), wrap64 (c.sec + ss), tn, av, an, f⟩)

theorem rd1_le {l : List Nat} {f s : Int} (h : 0 < l.length) : 1 ≤ (rd1 l f s).2 ∧ (rd1 l f s).2 ≤ l.length + 1 := by
  unfold rd1; split
  · exact ⟨uvar_pos l 1, uvar_le l 1⟩
  · exact ⟨Nat.le_refl _, by simp⟩
theorem rd2_le {l : List Nat} {f s t : Int} {i : Nat} (h1 : 1 ≤ i) (h : i ≤ l.length + 1) : 1 ≤ (rd2 l f s t i).2.2 ∧ (rd2 l f s t i).2.2 ≤ l.length + 1 := by
  unfold rd2; split
  · exact ⟨uvar_pos l _, uvar_le l _⟩
  · exact ⟨h1, h⟩
theorem rd3_le {l : List Nat} {f : Int} {i : Nat} (h1 : 1 ≤ i) (h : i ≤ l.length + 1) : 1 ≤ (rd3 l f i).2 ∧ (rd3 l f i).2 ≤ l.length + 1 := by
  unfold rd3; split
  · exact ⟨uvar_pos l _, uvar_le l _⟩
  · exact ⟨h1, h⟩
theorem rd4_le {l : List Nat} {f s t : Int} {i : Nat} (h1 : 1 ≤ i) (h : i ≤ l.length + 1) : 1 ≤ (rd4 l f s t i).2.2 ∧ (rd4 l f s t i).2.2 ≤ l.length + 1 := by
  unfold rd4; split
  · exact ⟨h1, h⟩
  · exact rd3_le (uvar_pos l _) (uvar_le l _)

theorem Got.all (l : List Nat) (c : Cod) (p : Plc) : ∃ r c' p', Got l c p r c' p' := by
  by_cases h : l.length = 0
  · exact ⟨0, c, p, .inl ⟨h, rfl, rfl, rfl⟩⟩
  · by_cases hi : (rd4 l (gb l 0 : Int) (wrap64 (c.sec + (rd2 l (gb l 0 : Int) c.step c.secStep (rd1 l (gb l 0 : Int) c.series).2).2.1)) (rd3 l (gb l 0 : Int) (rd2 l (gb l 0 : Int) c.step c.secStep (rd1 l (gb l 0 : Int) c.series).2).2.2).1 (rd3 l (gb l 0 : Int) (rd2 l (gb l 0 : Int) c.step c.secStep (rd1 l (gb l 0 : Int) c.series).2).2.2).2).2.2 ≤ l.length
    · exact ⟨_, _, _, .inr ⟨by omega, _, _, _, _, _, _, _, _, _, _, _, rfl, rfl, rfl, rfl, rfl, fun _ => ⟨rfl, rfl⟩, fun h => absurd hi h, rfl⟩⟩
    · exact ⟨_, _, _, .inr ⟨by omega, _, _, _, _, _, _, _, _, _, _, _, rfl, rfl, rfl, rfl, rfl, fun h => absurd h hi, fun _ => ⟨rfl, rfl⟩, rfl⟩⟩

/-- (*codec).place -/
theorem f41_got (w : World) (a : Option Addr) (l : List Nat) (cap C P : Nat) (c c' : Cod) (p p' : Plc) (r : Int) (hlen : l.length ≤ 1073741824) (h : Lies w a l) (hS : St w w C P c p) (hn : ∀ R, a = some ⟨R, 0, none⟩ → R ≠ C ∧ R ≠ P) (hG : Got l c p r c' p') :
    Calls Try.prog 41 #[.pointer (some ⟨C, 0, none⟩), .slice a l.length cap, .pointer (some ⟨P, 0, none⟩)] w fun e w' => e = .returned (.int .i64 r) ∧ St w w' C P c' p' := by
  rcases hG with ⟨h0, rfl, rfl, rfl⟩ | ⟨hpos, f, s1, st, ss, tn, av, an, i1, i2, i3, i4, hf, h1, h2, h3, h4, hr1, hr2, rfl⟩
  · rw [h0]
    refine (f41_empty w a cap C P).mono ?_
    rintro e w' ⟨rfl, rfl⟩
    exact ⟨rfl, hS⟩
  · have b1 := rd1_le (f := f) (s := c.series) hpos
    rw [← h1] at b1
    have b2 := rd2_le (f := f) (s := c.step) (t := c.secStep) b1.1 b1.2
    rw [← h2] at b2
    have b3 := rd3_le (f := f) b2.1 b2.2
    rw [← h3] at b3
    have b4 := rd4_le (f := f) (s := wrap64 (c.sec + ss)) (t := tn) b3.1 b3.2
    rw [← h4] at b4
    exact f41_any w a l l.length cap C P c p rfl hlen hpos h hS hn f s1 st ss tn av an i1 i2 i3 i4 hf h1 h2 h3 h4 b1.2 b2.2 b3.2 b4.2 r c' hr1 hr2
end Go.Proofs.Qxb6000182a
