import Derived.Test.Qxb6000182aRead
import Derived.Lib.Zigzag
import Derived.Lib.VarintDec
/-! uvarintAt and unzigzag. -/
namespace Go.Proofs.Qxb6000182a
open Go.RowKit
set_option linter.unusedSimpArgs false
set_option linter.unusedVariables false
attribute [local go_sem ↓] Go.wp_at_zero Go.wp_at_succ

theorem uvar_one (l : List Nat) (i : Nat) (h : i < l.length) (hc : gb l i < 128) : uvar l i = (gb l i, i + 1) := by
  unfold uvar; rw [dec, if_pos h, if_pos hc]; simp [ans]; omega
theorem uvar_two (l : List Nat) (i : Nat) (h : i + 1 < l.length) (hc : ¬ gb l i < 128) (hd : gb l (i + 1) < 128) : uvar l i = (gb l i % 128 + 128 * gb l (i + 1), i + 2) := by
  unfold uvar; rw [dec, if_pos (by omega), if_neg hc, dec, if_pos h, if_pos hd]; simp [ans]; omega
theorem two_round (c d : Nat) (hc : c < 256) (hd : d < 128) : bits .or .u64 (IntKind.u64.wrap (bits .and .u8 (c : Int) 127)) ((d : Int) * 128) = ((c % 128 + 128 * d : Nat) : Int) := by
  rw [u8_and127 _ (by omega) (by omega), IntKind.wrap_u64, u64_orv7 _ _ (by omega) (by omega) (by omega) (by omega) (by omega)]
  omega

set_option maxRecDepth 100000 in
set_option maxHeartbeats 1000000 in
/-- uvarintAt -/
theorem f39_any (w : World) (a : Option Addr) (l : List Nat) (cap i : Nat) (hlen : l.length ≤ 1073741824) (hi : i ≤ 9223372036854775807) (h : Lies w a l) :
    Calls Try.prog 39 #[.slice a l.length cap, .int .i64 (i : Int)] w fun e w' => e = .returned (.tuple #[.int .u64 ((uvar l i).1 : Int), .int .i64 ((uvar l i).2 : Int)]) ∧ w' = w := by
  have H := f38_any w a l cap i hlen hi h
  have H1 := uvar_one l i
  have H2 := uvar_two l i
  generalize uvar l i = u at *
  generalize hn : l.length = n at *
  by_cases hlt : i + 1 < n
  · have hlt' : (i : Int) < (n : Int) - 1 := by omega
    obtain ⟨R, rfl, hc⟩ := h.2 (by omega)
    have hc0 := hc i (by omega)
    have hc1 := hc (i + 1) (by omega)
    have hb0 := h.1 i (by omega)
    have hb1 := h.1 (i + 1) (by omega)
    generalize gb l i = c at *
    generalize gb l (i + 1) = d at *
    have h1 := hide (H1 (by omega))
    have h2 := hide (H2 (by omega))
    clear hc h H1 H2
    by_cases hend : c < 128
    · have hend' : (c : Int) < 128 := by omega
      clear H
      go_enter Try.func39, Try.ntmps39
      go_wp2
      go_ret2
      rw [h1.out hend]
      refine ⟨?_, rfl⟩
      simp
    · have hend' : ¬ (c : Int) < 128 := by omega
      by_cases hend2 : d < 128
      · have hend2' : (d : Int) < 128 := by omega
        clear H
        go_enter Try.func39, Try.ntmps39
        go_wp2
        go_ret2
        rw [h2.out hend hend2, two_round c d hb0 hend2]
        refine ⟨?_, rfl⟩
        simp
      · have hend2' : ¬ (d : Int) < 128 := by omega
        go_enter Try.func39, Try.ntmps39
        go_wp2_with fail
        refine H.mono ?_
        rintro e w' ⟨rfl, rfl⟩
        go_wp2
        go_ret2
        exact ⟨rfl, rfl⟩
  · have hlt' : ¬ (i : Int) < (n : Int) - 1 := by omega
    clear H1 H2
    go_enter Try.func39, Try.ntmps39
    go_wp2_with fail
    refine H.mono ?_
    rintro e w' ⟨rfl, rfl⟩
    go_wp2
    go_ret2
    exact ⟨rfl, rfl⟩

/-- the value that unzigzag answers -/
def unz (v : Nat) : Int := if v % 2 = 0 then ((v / 2 : Nat) : Int) else -((v / 2 : Nat) : Int) - 1

theorem i64_xor0 (x : Nat) (hx : x < 9223372036854775808) : bits .xor .i64 (x : Int) 0 = (x : Int) := by
  show IntKind.i64.wrap ((BitVec.ofInt 64 (x : Int) ^^^ BitVec.ofInt 64 0).toNat : Int) = _
  have h1 : (BitVec.ofInt 64 0).toNat = 0 := by decide
  have h2 : (BitVec.ofInt 64 (x : Int)).toNat = x := by
    rw [BitVec.ofInt_natCast, BitVec.toNat_ofNat]; exact Nat.mod_eq_of_lt (by omega)
  rw [BitVec.toNat_xor, h1, h2, Nat.xor_zero, IntKind.wrap_i64]
  omega
theorem unz_eq (v : Nat) (hv : v < 18446744073709551616) : bits .xor .i64 ((v : Int) / 2) (wrap64 (-wrap64 (bits .and .u64 (v : Int) 1))) = unz v := by
  rw [Lib.u64_and1 _ (by omega) (by omega)]
  unfold unz
  have e : (v : Int) / 2 = ((v / 2 : Nat) : Int) := by omega
  rw [e]
  by_cases h : v % 2 = 0
  · have h2 : (v : Int) % 2 = 0 := by omega
    rw [if_pos h, h2]
    have h3 : wrap64 (-wrap64 0) = 0 := by unfold wrap64; omega
    rw [h3]
    exact i64_xor0 _ (by omega)
  · have h2 : (v : Int) % 2 = 1 := by omega
    rw [if_neg h, h2]
    have h3 : wrap64 (-wrap64 1) = -1 := by unfold wrap64; omega
    rw [h3, ← Lib.i64_not _ (by omega)]
    simp only [bits, BitVec.xor_comm]

set_option maxRecDepth 100000 in
theorem f43_any (w : World) (v : Nat) (hv : v < 18446744073709551616) :
    Calls Try.prog 43 #[.int .u64 (v : Int)] w fun e w' => e = .returned (.int .i64 (unz v)) ∧ w' = w := by
  go_enter Try.func43, Try.ntmps43
  go_wp2
  go_ret
  rw [unz_eq v hv]
  exact ⟨rfl, rfl⟩
end Go.Proofs.Qxb6000182a
