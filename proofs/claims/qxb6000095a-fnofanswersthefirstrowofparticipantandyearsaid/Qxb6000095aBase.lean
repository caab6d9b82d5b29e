import Derived.Test.Qxb6000095aProg
import Derived.WalkKit
import Derived.WalkSpells
import Derived.WalkLawsBesides
namespace Go.Proofs.Qxb6000095a
open Go.RowKit
set_option linter.unusedSimpArgs false
set_option linter.unusedVariables false

set_option maxHeartbeats 400000 in
theorem f21_any (a : Option Addr) (len cap : Nat) (w : World) (h : len ≤ maxLen) :
    Calls Try.prog 21 #[.slice a len cap] w fun e w' => e = .returned (.bool (decide (len ≤ 1048576))) ∧ w' = w := by
  unfold maxLen at h
  by_cases hb : len ≤ 1048576
  · have h1 : ¬ (1048576 : Int) < (len : Int) := by omega
    go_enter Try.func21, Try.ntmps21
    go_wp2
    go_ret
    exact ⟨by simp [hb], rfl⟩
  · have h1 : (1048576 : Int) < (len : Int) := by omega
    go_enter Try.func21, Try.ntmps21
    go_wp2
    go_ret
    exact ⟨by simp [hb], rfl⟩

set_option maxHeartbeats 400000 in
theorem f15_any (a : Option Addr) (len cap : Nat) (w : World) (h : len ≤ maxLen) :
    Calls Try.prog 15 #[.slice a len cap] w fun e w' => e = .returned (.bool (decide (len ≤ 1048576))) ∧ w' = w := by
  unfold maxLen at h
  by_cases hb : len ≤ 1048576
  · have h1 : ¬ (1048576 : Int) < (len : Int) := by omega
    go_enter Try.func15, Try.ntmps15
    go_wp2
    go_ret
    exact ⟨by simp [hb], rfl⟩
  · have h1 : (1048576 : Int) < (len : Int) := by omega
    go_enter Try.func15, Try.ntmps15
    go_wp2
    go_ret
    exact ⟨by simp [hb], rfl⟩

/-- ZZB1New -/
theorem f10_any (w : World) : Calls Try.prog 10 #[] w fun e w' => e = .returned (.pointer (some ⟨w.heap.size + 2, 0, none⟩)) ∧
    w' = ((w.alloc (.map #[] 0)).alloc (.map #[] 0)).alloc (.cells #[.map (some w.heap.size), .slice none 0 0, .int .i32 0, .slice none 0 0, .map (some (w.heap.size + 1)), .int .i64 0] 61) := by
  have hmm := @run_makeMap Try.prog
  go_enter Try.func10, Try.ntmps10
  go_wp2
  go_ret
  exact ⟨rfl, rfl⟩

/-- (*Grades).mark -/
theorem f31_any (w : World) (G g k cap i c r : Nat) (h1 : w.cell? ⟨G, 1, none⟩ = some (.slice (some ⟨g, 0, none⟩) k cap)) (hi : i < 2147483648) (hk : i / 4096 < k)
    (h2 : w.cell? ⟨g, i / 4096, none⟩ = some (.slice (some ⟨c, 0, none⟩) r 4096)) (hr : i % 4096 < r) :
    Calls Try.prog 31 #[.pointer (some ⟨G, 0, none⟩), .int .i32 (i : Int)] w fun e w' => e = .returned (.pointer (some ⟨c, i % 4096 * 4, none⟩)) ∧ w' = w := by
  go_enter Try.func31, Try.ntmps31
  go_wp2
  trace_state
  go_ret
  exact ⟨rfl, rfl⟩

end Go.Proofs.Qxb6000095a
