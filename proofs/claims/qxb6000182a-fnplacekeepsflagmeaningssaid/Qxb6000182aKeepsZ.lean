import Derived.Test.Qxb6000182aKeepsE
import Derived.Test.Qxb6000182aKeepsLaw
import Derived.Deep.DeepCutAuto
import Derived.Laws.StructEq
/-! FnPlaceKeepsFlagMeanings returns true. -/
namespace Go.Proofs.Qxb6000182a
open Go.RowKit
set_option linter.unusedSimpArgs false
set_option linter.unusedVariables false
attribute [local go_sem ↓] Go.wp_at_zero Go.wp_at_succ

set_option maxRecDepth 100000 in
set_option maxHeartbeats 4000000 in
theorem f8_zero (a0 : Option Addr) (l : List Nat) (len0 cap0 : Nat) (sec line series secStep step pS pL pT pTn pA pAn : Int) (w : World) (hl : l.length = len0) (hm : len0 ≤ maxLen) (hb : ∀ i, i < l.length → gb l i < 256)
    (h : (a0 = none ∧ l.length = 0 ∧ cap0 = 0) ∨ ∃ x, a0 = some x ∧ ∀ i, i < l.length → w.cell? (x.add i) = some (.int .u8 (gb l i : Int)))
    (r : Int) (c' : Cod) (p' : Plc) (hbd : len0 ≤ 1048576) (hG : Got l ⟨sec, line, series, secStep, step⟩ ⟨pS, pL, pT, pTn, pA, pAn, 0⟩ r c' p') (hz : ¬ len0 = 0) (hr : r = 0) :
    Calls Try.prog 8 #[.int .i64 sec, .int .i64 line, .int .i64 series, .int .i64 secStep, .int .i64 step, .slice a0 len0 cap0, .int .i64 pS, .int .i64 pL, .int .i64 pT, .int .i32 pTn, .int .i64 pA, .int .i32 pAn] w fun e w' => e = .returned (.bool true) ∧ Below w.heap.size w w' := by
  have h25 := f25_any a0 len0 cap0 (.int .i64 sec) (.int .i64 line) (.int .i64 series) (.int .i64 secStep) (.int .i64 step) (.int .i64 pS) (.int .i64 pL) (.int .i64 pT) (.int .i32 pTn) (.int .i64 pA) (.int .i32 pAn) w hm
  rw [decide_eq_true hbd] at h25
  have hbd' : ¬ (1048576 : Int) < (len0 : Int) := by omega
  have h12 := f12_all w a0 l cap0 (by omega) hb h
  rw [hl] at h12
  have H22 := hide (fun w' ar cap' Z Q (hL : Lies w' ar l) hz hn => f22_any w' ar l len0 cap' Z Q ⟨sec, line, series, secStep, step⟩ c' ⟨pS, pL, pT, pTn, pA, pAn, 0⟩ p' r hl (by omega) hL hz hn hG)
  have HG := hide hG
  have hz0 := hide hz
  have hr0 := hide hr
  clear hz hr
  have HB := hide hl
  clear hm h hb hG hl
  go_enter Try.func8, Try.ntmps8
  go_wp2_with fail
  refine h25.mono ?_
  rintro e w' ⟨rfl, rfl⟩
  go_wp2_with fail
  refine h12.mono ?_
  rintro e w1 ⟨ar, cap', rfl, hL, hR, hC⟩
  have HL := hide hL
  have HR := hide hR
  have HC := hide hC
  clear hL hR hC h12 h25
  go_wp2_with fail
  have hA4 := hide (alloc4 w1 (.cells #[.int .i64 sec, .int .i64 line, .int .i64 series, .int .i64 secStep, .int .i64 step] 34) (.cells #[.int .i64 pS, .int .i64 pL, .int .i64 pT, .int .i32 pTn, .int .i64 pA, .int .i32 pAn, .int .u8 0] 36) (.cells #[.int .i64 sec, .int .i64 line, .int .i64 series, .int .i64 secStep, .int .i64 step] 34) (.cells #[.int .i64 pS, .int .i64 pL, .int .i64 pT, .int .i32 pTn, .int .i64 pA, .int .i32 pAn, .int .u8 0] 36))
  generalize (((w1.alloc (.cells #[.int .i64 sec, .int .i64 line, .int .i64 series, .int .i64 secStep, .int .i64 step] 34)).alloc (.cells #[.int .i64 pS, .int .i64 pL, .int .i64 pT, .int .i32 pTn, .int .i64 pA, .int .i32 pAn, .int .u8 0] 36)).alloc (.cells #[.int .i64 sec, .int .i64 line, .int .i64 series, .int .i64 secStep, .int .i64 step] 34)).alloc (.cells #[.int .i64 pS, .int .i64 pL, .int .i64 pT, .int .i32 pTn, .int .i64 pA, .int .i32 pAn, .int .u8 0] 36) = w2 at hA4 ⊢
  have HN : Hid (∀ R, ar = some ⟨R, 0, none⟩ → R ≠ w1.heap.size ∧ R ≠ w1.heap.size + 1 ∧ R ≠ w1.heap.size + 1 + 1 ∧ R ≠ w1.heap.size + 1 + 1 + 1 ∧ R < w2.heap.size) := hide (fun R hR => by have := HR.out R hR; have := hA4.out.2.2.2.2.size; omega)
  have HO : Hid (w'.heap.size ≤ w1.heap.size) := hide HC.out.size
  have NE : Hid (w1.heap.size + 1 + 1 + 1 ≠ w1.heap.size + 1 + 1 ∧ w1.heap.size ≠ w1.heap.size + 1 + 1 ∧ w1.heap.size ≠ w1.heap.size + 1 + 1 + 1 ∧ w1.heap.size + 1 ≠ w1.heap.size + 1 + 1 ∧ w1.heap.size + 1 ≠ w1.heap.size + 1 + 1 + 1 ∧ w1.heap.size ≤ w1.heap.size + 1 + 1 ∧ w1.heap.size ≤ w1.heap.size + 1 + 1 + 1) := hide (by omega)
  have HL2 : Hid (Lies w2 ar l) := hide (HL.out.chg hA4.out.2.2.2.2 (fun _ _ => id))
  have HC2 : Hid (Chg w' w2 (fun _ => False)) := hide (HC.out.chain hA4.out.2.2.2.2)
  have HA4 := hide (⟨hA4.out.1, hA4.out.2.1, hA4.out.2.2.1, hA4.out.2.2.2.1⟩ : _ ∧ _ ∧ _ ∧ _)
  clear hA4 HL HC HR
  generalize w1.heap.size + 1 + 1 + 1 = Q at *
  generalize w1.heap.size + 1 + 1 = Z at *
  generalize w1.heap.size + 1 = B at *
  generalize w1.heap.size = A at *
  have HZ : Hid (Zt w2 Z Q ⟨sec, line, series, secStep, step⟩ ⟨pS, pL, pT, pTn, pA, pAn, 0⟩) := hide ⟨HA4.out.2.2.1, HA4.out.2.2.2, NE.out.1.symm⟩
  refine (H22.out w2 ar cap' Z Q HL2.out HZ.out (fun R hR => by have := HN.out R hR; omega)).mono ?_
  rintro e w3 ⟨rfl, hZ3, hC3⟩
  have Z3 := hide hZ3
  have C3 := hide hC3
  have hBel := hide (show Below w'.heap.size w' w3 from (HC2.out.trans (S'' := fun k => k = Z ∨ k = Q) hC3 (fun _ _ => False.elim) (fun _ _ h => h)).below (Nat.le_refl _) (fun k hk => by have := HO.out; have := NE.out; omega))
  have HA := hide (hC3.heap HA4.out.1 (by have := NE.out; omega))
  have HBB := hide (hC3.heap HA4.out.2.1 (by have := NE.out; omega))
  have L3 := hide (HL2.out.chg hC3 (fun R hR => by have := HN.out R hR; omega))
  clear hZ3 hC3 HZ HC2 H22 HA4
  have z0 : w3.cell? ⟨Z, 0, none⟩ = some (.int .i64 c'.sec) := cell_of_block Z3.out.hZ 0
  have z1 : w3.cell? ⟨Z, 1, none⟩ = some (.int .i64 c'.line) := cell_of_block Z3.out.hZ 1
  have z2 : w3.cell? ⟨Z, 2, none⟩ = some (.int .i64 c'.series) := cell_of_block Z3.out.hZ 2
  have z3 : w3.cell? ⟨Z, 3, none⟩ = some (.int .i64 c'.secStep) := cell_of_block Z3.out.hZ 3
  have z4 : w3.cell? ⟨Z, 4, none⟩ = some (.int .i64 c'.step) := cell_of_block Z3.out.hZ 4
  have q0 : w3.cell? ⟨Q, 0, none⟩ = some (.int .i64 p'.series) := cell_of_block Z3.out.hQ 0
  have q1 : w3.cell? ⟨Q, 1, none⟩ = some (.int .i64 p'.line) := cell_of_block Z3.out.hQ 1
  have q2 : w3.cell? ⟨Q, 2, none⟩ = some (.int .i64 p'.tsec) := cell_of_block Z3.out.hQ 2
  have q3 : w3.cell? ⟨Q, 3, none⟩ = some (.int .i32 p'.tnsec) := cell_of_block Z3.out.hQ 3
  have q4 : w3.cell? ⟨Q, 4, none⟩ = some (.int .i64 p'.asec) := cell_of_block Z3.out.hQ 4
  have q5 : w3.cell? ⟨Q, 5, none⟩ = some (.int .i32 p'.ansec) := cell_of_block Z3.out.hQ 5
  have q6 : w3.cell? ⟨Q, 6, none⟩ = some (.int .u8 p'.flags) := cell_of_block Z3.out.hQ 6
  have hz := hz0.out
  have hr := hr0.out
  have K := hide (HG.out.kept (by have := HB.out; omega))
  clear HG HA HBB
  have hz' : ¬ (len0 : Int) = 0 := by omega
  obtain ⟨R, rfl, hcR⟩ := L3.out.2 (by have := HB.out; omega)
  have hf := hcR 0 (by have := HB.out; omega)
  have KF := K.out.flags
  have KC := hide K.out.count
  rw [HB.out] at KC
  have KS := hide K.out.series
  have KT := hide K.out.step
  have KL := hide K.out.line
  have KA := hide K.out.taken
  have KW := hide K.out.whole
  have KD := hide K.out.late
  have KR := hide K.out.refused
  have KM := hide K.out.moved
  rw [KF] at q6
  generalize (gb l 0 : Int) = f at *
  clear hcR K KF
  obtain ⟨cs, cl, cr, css, cst⟩ := c'
  obtain ⟨ps, pl, pt, ptn, pa, pan, pf⟩ := p'
  simp only at z0 z1 z2 z3 z4 q0 q1 q2 q3 q4 q5 q6 KS KT KL KA KW KD KR KM
  clear Z3
  subst hr
  clear KC
  go_upto_region 18 with fail
  go_cut [109] (fun v w' => v = .bool false ∧ w' = w3)
  case first =>
    by_cases hy : bits .and .u8 f 64 = 0
    · go_wp2_with fail
      go_meet
      case rel => exact ⟨rfl, rfl⟩
    · have e1 := KS.out hy
      go_wp2_with fail
      go_meet
      case rel => exact ⟨rfl, rfl⟩
  case rest =>
    obtain ⟨rfl, rfl⟩ := hcut
    go_upto_region 20 with fail
    go_cut [124] (fun v w' => v = .bool false ∧ w' = wc)
    case first =>
      by_cases hy : bits .and .u8 f 128 = 0
      · go_wp2_with fail
        go_meet
        case rel => exact ⟨rfl, rfl⟩
      · obtain ⟨e1, e2⟩ := KT.out hy
        subst e1 e2
        go_wp2_with fail
        go_meet
        case rel => exact ⟨rfl, rfl⟩
    case rest =>
      obtain ⟨rfl, rfl⟩ := hcut
      have e1 := KL.out
      have e2 := KA.out
      go_upto_region 24 with fail
      go_cut [153] (fun v w' => v = .bool false ∧ w' = wc)
      case first =>
        by_cases hy : bits .and .u8 f 8 = 0
        · go_wp2_with fail
          go_meet
          case rel => exact ⟨rfl, rfl⟩
        · obtain ⟨e1, e2⟩ := KW.out hy
          subst e1 e2
          go_wp2_with fail
          go_meet
          case rel => exact ⟨rfl, rfl⟩
      case rest =>
        obtain ⟨rfl, rfl⟩ := hcut
        go_upto_region 26 with fail
        go_cut [170] (fun v w' => v = .bool false ∧ w' = wc)
        case first =>
          by_cases hy : bits .and .u8 f 4 = 0
          · obtain ⟨e1, e2⟩ := KD.out hy
            subst e1 e2
            go_wp2_with fail
            go_meet
            case rel => exact ⟨rfl, rfl⟩
          · go_wp2_with fail
            go_meet
            case rel => exact ⟨rfl, rfl⟩
        case rest =>
          obtain ⟨rfl, rfl⟩ := hcut
          obtain ⟨e3, e4, e5⟩ := KR.out (by trivial)
          subst e3 e4 e5
          go_wp2
          go_ret
          exact ⟨by simp, hBel.out⟩
end Go.Proofs.Qxb6000182a
