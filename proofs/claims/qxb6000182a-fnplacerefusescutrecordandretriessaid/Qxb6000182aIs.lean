import Derived.Test.Qxb6000182aProg
import Derived.WalkKit
import Derived.WalkSpells
import Derived.WalkLawsBesides
import Derived.Deep.DrawnRows
/-! b1PlaceIs, b1CodecIs, and the bound laid by program. -/
namespace Go.Proofs.Qxb6000182a
open Go.RowKit
set_option linter.unusedSimpArgs false
set_option linter.unusedVariables false
attribute [local go_sem ↓] Go.wp_at_zero Go.wp_at_succ

set_option maxRecDepth 100000 in
set_option maxHeartbeats 1000000 in
/-- b1PlaceIs, where it is -/
theorem f23_same (w : World) (s ln ts tn a an fl : Int) :
    Calls Try.prog 23 #[.agg #[.int .i64 s, .int .i64 ln, .int .i64 ts, .int .i32 tn, .int .i64 a, .int .i32 an, .int .u8 fl], .int .u8 fl, .int .i64 s, .int .i64 ln, .int .i64 ts, .int .i32 tn, .int .i64 a, .int .i32 an] w fun e w' =>
      e = .returned (.bool true) ∧ ∃ o, w' = w.alloc o := by
  go_enter Try.func23, Try.ntmps23
  go_wp2
  go_ret
  exact ⟨by simp, _, rfl⟩

set_option maxRecDepth 100000 in
set_option maxHeartbeats 1000000 in
/-- b1CodecIs, where it is -/
theorem f24_same (w : World) (s ln se ss st : Int) :
    Calls Try.prog 24 #[.agg #[.int .i64 s, .int .i64 ln, .int .i64 se, .int .i64 ss, .int .i64 st], .int .i64 s, .int .i64 ln, .int .i64 se, .int .i64 ss, .int .i64 st] w fun e w' =>
      e = .returned (.bool true) ∧ ∃ o, w' = w.alloc o := by
  go_enter Try.func24, Try.ntmps24
  go_wp2
  go_ret
  exact ⟨by simp, _, rfl⟩

set_option maxHeartbeats 400000 in
theorem f20_any (a : Option Addr) (len cap : Nat) (x0 x1 x2 x3 x4 x5 x6 x7 x8 x9 x10 : Value) (w : World) (h : len ≤ maxLen) :
    Calls Try.prog 20 #[x0, x1, x2, x3, x4, x5, x6, x7, x8, x9, x10, .slice a len cap] w fun e w' => e = .returned (.bool (decide (len ≤ 1048576))) ∧ w' = w := by
  unfold maxLen at h
  by_cases hb : len ≤ 1048576
  · have h1 : ¬ (1048576 : Int) < (len : Int) := by omega
    go_enter Try.func20, Try.ntmps20
    go_wp2
    go_ret
    exact ⟨by simp [hb], rfl⟩
  · have h1 : (1048576 : Int) < (len : Int) := by omega
    go_enter Try.func20, Try.ntmps20
    go_wp2
    go_ret
    exact ⟨by simp [hb], rfl⟩
end Go.Proofs.Qxb6000182a
