import Derived.Test.Qxb6000182aPlace
import Derived.Test.Qxb6000182aHornerLaw
import Derived.Deep.DeepCutAuto
import Derived.Laws.StructEq
/-! FnPlaceKeepsFlagMeanings returns true. -/
namespace Go.Proofs.Qxb6000182a
open Go.RowKit
set_option linter.unusedSimpArgs false
set_option linter.unusedVariables false
attribute [local go_sem ↓] Go.wp_at_zero Go.wp_at_succ

set_option maxHeartbeats 400000 in
theorem f25_any (a : Option Addr) (len cap : Nat) (x0 x1 x2 x3 x4 x6 x7 x8 x9 x10 x11 : Value) (w : World) (h : len ≤ maxLen) :
    Calls Try.prog 25 #[x0, x1, x2, x3, x4, .slice a len cap, x6, x7, x8, x9, x10, x11] w fun e w' => e = .returned (.bool (decide (len ≤ 1048576))) ∧ w' = w := by
  unfold maxLen at h
  by_cases hb : len ≤ 1048576
  · have h1 : ¬ (1048576 : Int) < (len : Int) := by omega
    go_enter Try.func25, Try.ntmps25
    go_wp2
    go_ret
    exact ⟨by simp [hb], rfl⟩
  · have h1 : (1048576 : Int) < (len : Int) := by omega
    go_enter Try.func25, Try.ntmps25
    go_wp2
    go_ret
    exact ⟨by simp [hb], rfl⟩

/-- What the law asks of an answer of place over a record that is not empty. -/
structure Kept (l : List Nat) (c : Cod) (r : Int) (c' : Cod) (p' : Plc) : Prop where
  flags : p'.flags = (gb l 0 : Int)
  count : r = 0 ∨ (1 ≤ r ∧ r ≤ (l.length : Int))
  series : bits .and .u8 (gb l 0 : Int) 64 ≠ 0 → p'.series = c.series
  step : bits .and .u8 (gb l 0 : Int) 128 ≠ 0 → c'.step = c.step ∧ c'.secStep = c.secStep
  line : p'.line = wrap64 (c.line + c'.step)
  taken : p'.tsec = wrap64 (c.sec + c'.secStep)
  whole : bits .and .u8 (gb l 0 : Int) 8 ≠ 0 → p'.tnsec = 0 ∧ p'.ansec = 0
  late : bits .and .u8 (gb l 0 : Int) 4 = 0 → p'.asec = p'.tsec ∧ p'.ansec = p'.tnsec
  refused : r = 0 → c'.sec = c.sec ∧ c'.line = c.line ∧ c'.series = c.series
  moved : r ≠ 0 → c'.sec = p'.tsec ∧ c'.line = p'.line ∧ c'.series = p'.series

theorem Got.kept {l : List Nat} {c c' : Cod} {p p' : Plc} {r : Int} (h : Got l c p r c' p') (hl : 0 < l.length) : Kept l c r c' p' := by
  rcases h with ⟨h0, _⟩ | ⟨_, f, s1, st, ss, tn, av, an, i1, i2, i3, i4, rfl, h1, h2, h3, h4, hr1, hr2, rfl⟩
  · omega
  have hst : c'.step = st ∧ c'.secStep = ss := by
    by_cases hi : i4 ≤ l.length
    · rw [(hr1 hi).2]; exact ⟨rfl, rfl⟩
    · rw [(hr2 hi).2]; exact ⟨rfl, rfl⟩
  have b1 := rd1_le (f := (gb l 0 : Int)) (s := c.series) hl
  rw [← h1] at b1
  have b2 := rd2_le (f := (gb l 0 : Int)) (s := c.step) (t := c.secStep) b1.1 b1.2
  rw [← h2] at b2
  have b3 := rd3_le (f := (gb l 0 : Int)) b2.1 b2.2
  rw [← h3] at b3
  have b4 := rd4_le (f := (gb l 0 : Int)) (s := wrap64 (c.sec + ss)) (t := tn) b3.1 b3.2
  rw [← h4] at b4
  simp only at b4
  refine ⟨rfl, ?_, ?_, ?_, by rw [hst.1], by rw [hst.2], ?_, ?_, ?_, ?_⟩
  · by_cases hi : i4 ≤ l.length
    · rw [(hr1 hi).1]; omega
    · rw [(hr2 hi).1]; omega
  · intro hz
    rw [rd1, if_neg hz] at h1
    exact (Prod.mk.inj h1).1
  · intro hz
    rw [rd2, if_neg hz] at h2
    exact ⟨hst.1.trans (Prod.mk.inj h2).1, hst.2.trans (Prod.mk.inj (Prod.mk.inj h2).2).1⟩
  · intro hz
    rw [rd3, if_neg hz] at h3
    have ht : tn = 0 := (Prod.mk.inj h3).1
    refine ⟨ht, ?_⟩
    unfold rd4 at h4
    split at h4
    · exact ((Prod.mk.inj (Prod.mk.inj h4).2).1).trans ht
    · have := (Prod.mk.inj h4).2
      rw [rd3, if_neg hz] at this
      exact (Prod.mk.inj this).1
  · intro hz
    rw [rd4, if_pos hz] at h4
    exact ⟨(Prod.mk.inj h4).1, (Prod.mk.inj (Prod.mk.inj h4).2).1⟩
  · intro hr
    by_cases hi : i4 ≤ l.length
    · have := (hr1 hi).1; omega
    · rw [(hr2 hi).2]; exact ⟨rfl, rfl, rfl⟩
  · intro hr
    by_cases hi : i4 ≤ l.length
    · rw [(hr1 hi).2]; exact ⟨rfl, rfl, rfl⟩
    · exact absurd (hr2 hi).1 hr
end Go.Proofs.Qxb6000182a
