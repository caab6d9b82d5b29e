import Derived.Test.Qxb6000182aRecLaw
import Derived.Test.Qxb6000182aEncode
/-! The numbers and flags that b1EncodeRecord chooses mean the place that was handed in. -/
namespace Go.Proofs.Qxb6000182a
open Go.RowKit
set_option linter.unusedSimpArgs false
set_option linter.unusedVariables false

/-- an int64, an int32 -/
def I64 (x : Int) : Prop := -9223372036854775808 ≤ x ∧ x ≤ 9223372036854775807
def I32 (x : Int) : Prop := -2147483648 ≤ x ∧ x ≤ 2147483647
theorem i64_of_wf {z : Int} (h : (Lit.int .i64 z).wf = true) : I64 z := by
  have h0 : IntKind.i64.min = -9223372036854775808 := rfl
  have h1 : IntKind.i64.max = 9223372036854775807 := rfl
  simp [Lit.wf] at h
  unfold I64
  omega
theorem i32_of_wf {z : Int} (h : (Lit.int .i32 z).wf = true) : I32 z := by
  have h0 : IntKind.i32.min = -2147483648 := rfl
  have h1 : IntKind.i32.max = 2147483647 := rfl
  simp [Lit.wf] at h
  unfold I32
  omega
theorem i64_wrap (x : Int) : I64 (wrap64 x) := by unfold I64 wrap64; omega

def nums (rS ns nss tS tN aS aN : Int) : Nums := ⟨(rS % 18446744073709551616).toNat, zz ns, zz nss, (tN % 4294967296).toNat, (wrap64 (tS - aS) % 18446744073709551616).toNat, (aN % 4294967296).toNat⟩

theorem nums_ok {rS ns nss tS tN aS aN : Int} (h1 : I64 ns) (h2 : I64 nss) : (nums rS ns nss tS tN aS aN).Ok :=
  ⟨by simp only [nums]; omega, zz_lt h1.1 h1.2, zz_lt h2.1 h2.2, by simp only [nums]; omega, by simp only [nums]; omega, by simp only [nums]; omega⟩

theorem means_of {sec line series secStep step rS rL tS tN aS aN ns nss secStep' step' : Int} {b1 b2 b3 b4 : Bool} (hrS : I64 rS) (hrL : I64 rL) (htS : I64 tS) (htN : I32 tN) (haS : I64 aS) (haN : I32 aN)
    (hns : ns = wrap64 (rL - line)) (hnss : nss = wrap64 (tS - sec)) (h1 : b1 = decide (rS = series)) (h2 : b2 = (decide (ns = step) && decide (nss = secStep))) (h3 : b3 = (decide (tN = 0) && decide (aN = 0))) (h4 : b4 = (!decide (aS = tS) || !decide (aN = tN)))
    (hst : b2 = true → secStep' = secStep ∧ step' = step) :
    Means b1 b2 b3 b4 (nums rS ns nss tS tN aS aN) ⟨sec, line, series, secStep', step'⟩ rS rL tS tN aS aN ns nss := by
  unfold I64 at hrS hrL htS haS
  unfold I32 at htN haN
  have n1 : I64 ns := hns ▸ i64_wrap _
  have n2 : I64 nss := hnss ▸ i64_wrap _
  refine ⟨nums_ok n1 n2, ?_, ?_, ?_, ⟨unz_zz _, unz_zz _⟩, ?_, ?_, ?_, ?_, ?_, ?_, ?_⟩
  · intro h; rw [h1] at h; simp at h; exact h.symm
  · simp only [nums]; unfold wrap64; omega
  · intro h
    obtain ⟨e1, e2⟩ := hst h
    rw [h2] at h; simp at h
    exact ⟨e2.trans h.1.symm, e1.trans h.2.symm⟩
  · simp only; rw [hns]; unfold wrap64; omega
  · simp only; rw [hnss]; unfold wrap64; omega
  · intro h; rw [h3] at h; simp at h; exact h
  · simp only [nums]; unfold wrap32; omega
  · simp only [nums]; unfold wrap32; omega
  · intro h; rw [h4] at h; simp at h; exact h
  · simp only [nums]; unfold wrap64; omega
end Go.Proofs.Qxb6000182a
