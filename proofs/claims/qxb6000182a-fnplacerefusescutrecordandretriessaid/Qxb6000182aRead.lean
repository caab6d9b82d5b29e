import Derived.Test.Qxb6000182aProg
import Derived.WalkKit
import Derived.WalkSpells
import Derived.WalkLawsBesides
import Derived.Deep.DrawnRows
import Derived.Test.Qxb6000182aVar
import Derived.Test.Qxb6000182aMem
/-! The readers of varints: each computes 'uvar'. -/
namespace Go.Proofs.Qxb6000182a
open Go.RowKit
set_option linter.unusedSimpArgs false
set_option linter.unusedVariables false
attribute [local go_sem ↓] Go.wp_at_zero Go.wp_at_succ

/-- a row of bytes in memory, from its block's start on -/
def Lies (w : World) (a : Option Addr) (l : List Nat) : Prop :=
  (∀ i, i < l.length → gb l i < 256) ∧ (0 < l.length → ∃ R, a = some ⟨R, 0, none⟩ ∧ ∀ i, i < l.length → w.cell? ⟨R, i, none⟩ = some (.int .u8 (gb l i : Int)))

/-- The round's step, in the walk's own words. -/
theorem or_round (l : List Nat) (i k J : Nat) (hJ : J = i + k) (hk : k < 10) (c : Nat) (hc : gb l J = c) (hb : c < 256) (V : Nat) (hV : V = val l i k % 18446744073709551616) :
    bits .or .u64 (V : Int) (IntKind.u64.wrap (IntKind.u64.wrap (bits .and .u8 (c : Int) 127) * 2 ^ (7 * k))) = ((val l i (k + 1) % 18446744073709551616 : Nat) : Int) := by
  have h1 := val_lt l k i
  have h2 : (128 : Nat) ^ k ≤ 128 ^ 9 := Nat.pow_le_pow_right (by omega) (by omega)
  have h4 : (128 : Nat) ^ 9 = 9223372036854775808 := by decide
  have h3 : V = val l i k := by rw [hV]; apply Nat.mod_eq_of_lt; omega
  rw [u8_and127 _ (by omega) (by omega), IntKind.wrap_u64, IntKind.wrap_u64, Int.emod_eq_of_lt (a := (c : Int) % 128) (by omega) (by omega), h3, or_step _ _ _ h1 hk hb, val_next, ← hc, hJ]

set_option maxRecDepth 100000 in
set_option maxHeartbeats 1000000 in
/-- longUvarintAt -/
theorem f38_any (w : World) (a : Option Addr) (l : List Nat) (cap i : Nat) (hlen : l.length ≤ 1073741824) (hi : i ≤ 9223372036854775807) (h : Lies w a l) :
    Calls Try.prog 38 #[.slice a l.length cap, .int .i64 (i : Int)] w fun e w' => e = .returned (.tuple #[.int .u64 ((uvar l i).1 : Int), .int .i64 ((uvar l i).2 : Int)]) ∧ w' = w := by
  generalize hn : l.length = n at *
  go_enter Try.func38, Try.ntmps38
  go_wp2
  go_loop [1, 6, 7] (fun j v s => ∃ k J V : Nat, k ≤ 10 ∧ j = .int .i64 (J : Int) ∧ J = i + k ∧ J ≤ 9223372036854775807 ∧ v = .int .u64 (V : Int) ∧ V = val l i k % 18446744073709551616 ∧ s = .int .u64 ((7 * k : Nat) : Int) ∧ Goes l i k)
    (fun j v s => 70 - (intOf s).toNat)
  case atStart => exact ⟨0, i, 0, by omega, rfl, by omega, by omega, rfl, rfl, rfl, goes_start l i⟩
  case round =>
    obtain ⟨k, J, V, hk, rfl, hJ, hik, rfl, hV, rfl, hg⟩ := hrel
    have hVl : V < 18446744073709551616 := by omega
    have HV := hide hV
    have HG := hide hg
    have HJ := hide hJ
    clear hV hg
    by_cases h10 : k < 10
    · have h10' : ((7 * k : Nat) : Int) < 64 := by omega
      by_cases hlt : J < n
      · have hlt' : (J : Int) < (n : Int) := by omega
        obtain ⟨R, rfl, hc⟩ := h.2 (by omega)
        have hcell := hc J (by omega)
        have hb := h.1 J (by omega)
        generalize hcc : gb l J = c at *
        have HC := hide hcc
        clear hc h hJ hcc
        by_cases hend : c < 128
        · have hend' : (c : Int) < 128 := by omega
          go_wp2
          go_ret2
          have hJ := HJ.out
          have hC := HC.out
          subst hJ
          rw [goes_ends HG.out h10 (by omega) (by omega), or_round l i k _ rfl h10 c hC hb V HV.out]
          exact ⟨by simp, rfl⟩
        · have hend' : ¬ (c : Int) < 128 := by omega
          go_wp2
          have hJ := HJ.out
          have hC := HC.out
          refine ⟨⟨k + 1, J + 1, _, by omega, by go_num, by omega, by omega, ?_, rfl, by go_num, ?_⟩, ?_⟩
          · rw [or_round l i k J hJ h10 c hC hb V HV.out]
          · subst hJ; exact goes_next HG.out h10 (by omega) (by omega)
          · simp [intOf]; omega
      · have hlt' : ¬ (J : Int) < (n : Int) := by omega
        clear hJ
        go_wp2
        go_ret2
        have hJ := HJ.out
        rw [goes_none HG.out (.inr (by omega)), hn]
        exact ⟨rfl, rfl⟩
    · have h10' : ¬ ((7 * k : Nat) : Int) < 64 := by omega
      clear hJ
      go_wp2
      go_ret2
      rw [goes_none HG.out (.inl (by omega)), hn]
      exact ⟨rfl, rfl⟩
end Go.Proofs.Qxb6000182a
