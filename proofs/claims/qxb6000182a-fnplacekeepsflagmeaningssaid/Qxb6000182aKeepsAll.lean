import Derived.Test.Qxb6000182aKeepsE
import Derived.Test.Qxb6000182aKeepsZ
import Derived.Test.Qxb6000182aKeepsN
import Derived.Test.Qxb6000182aKeepsLaw
import Derived.Deep.DeepCutAuto
import Derived.Laws.StructEq
/-! FnPlaceKeepsFlagMeanings returns true. -/
namespace Go.Proofs.Qxb6000182a
open Go.RowKit
set_option linter.unusedSimpArgs false
set_option linter.unusedVariables false
attribute [local go_sem ↓] Go.wp_at_zero Go.wp_at_succ

set_option maxRecDepth 100000 in
set_option maxHeartbeats 4000000 in
theorem f8_any (a0 : Option Addr) (l : List Nat) (len0 cap0 : Nat) (sec line series secStep step pS pL pT pTn pA pAn : Int) (w : World) (hl : l.length = len0) (hm : len0 ≤ maxLen) (hb : ∀ i, i < l.length → gb l i < 256)
    (h : (a0 = none ∧ l.length = 0 ∧ cap0 = 0) ∨ ∃ x, a0 = some x ∧ ∀ i, i < l.length → w.cell? (x.add i) = some (.int .u8 (gb l i : Int))) :
    Calls Try.prog 8 #[.int .i64 sec, .int .i64 line, .int .i64 series, .int .i64 secStep, .int .i64 step, .slice a0 len0 cap0, .int .i64 pS, .int .i64 pL, .int .i64 pT, .int .i32 pTn, .int .i64 pA, .int .i32 pAn] w fun e w' => e = .returned (.bool true) ∧ Below w.heap.size w w' := by
  by_cases hbd : len0 ≤ 1048576
  · obtain ⟨r, c', p', hG⟩ := Got.all l ⟨sec, line, series, secStep, step⟩ ⟨pS, pL, pT, pTn, pA, pAn, 0⟩
    by_cases hz : len0 = 0
    · exact f8_empty a0 l len0 cap0 sec line series secStep step pS pL pT pTn pA pAn w hl hm hb h r c' p' hbd hG hz
    · by_cases hr : r = 0
      · exact f8_zero a0 l len0 cap0 sec line series secStep step pS pL pT pTn pA pAn w hl hm hb h r c' p' hbd hG hz hr
      · exact f8_more a0 l len0 cap0 sec line series secStep step pS pL pT pTn pA pAn w hl hm hb h r c' p' hbd hG hz hr
  · have h25 := f25_any a0 len0 cap0 (.int .i64 sec) (.int .i64 line) (.int .i64 series) (.int .i64 secStep) (.int .i64 step) (.int .i64 pS) (.int .i64 pL) (.int .i64 pT) (.int .i32 pTn) (.int .i64 pA) (.int .i32 pAn) w hm
    rw [decide_eq_false hbd] at h25
    go_enter Try.func8, Try.ntmps8
    go_wp2_with fail
    refine h25.mono ?_
    rintro e w' ⟨rfl, rfl⟩
    go_wp2
    go_ret
    exact ⟨rfl, Below.refl _ _⟩
end Go.Proofs.Qxb6000182a
