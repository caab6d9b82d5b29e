import Derived.Test.Qxb6000182aRead
/-! b1HornerUvarint computes 'uvar' too; ZZLongUvarintAt hands longUvarintAt on. -/
namespace Go.Proofs.Qxb6000182a
open Go.RowKit
set_option linter.unusedSimpArgs false
set_option linter.unusedVariables false
attribute [local go_sem ↓] Go.wp_at_zero Go.wp_at_succ

theorem f13_any (w : World) (a : Option Addr) (l : List Nat) (cap i : Nat) (hlen : l.length ≤ 1073741824) (hi : i ≤ 9223372036854775807) (h : Lies w a l) :
    Calls Try.prog 13 #[.slice a l.length cap, .int .i64 (i : Int)] w fun e w' => e = .returned (.tuple #[.int .u64 ((uvar l i).1 : Int), .int .i64 ((uvar l i).2 : Int)]) ∧ w' = w := by
  have H := f38_any w a l cap i hlen hi h
  generalize uvar l i = u at *
  go_enter Try.func13, Try.ntmps13
  go_wp2_with fail
  refine H.mono ?_
  rintro e w' ⟨rfl, rfl⟩
  go_wp2
  go_ret2
  exact ⟨rfl, rfl⟩

theorem horner_round (v c : Int) (hv : 0 ≤ v) (hv1 : v < 18446744073709551616) (hc : 0 ≤ c) (hc1 : c < 256) :
    bits .or .u64 (IntKind.u64.wrap (v * 128)) (IntKind.u64.wrap (bits .and .u8 c 127)) = (c % 128 + 128 * v) % 18446744073709551616 := by
  rw [u8_and127 _ (by omega) (by omega), IntKind.wrap_u64, IntKind.wrap_u64, Int.emod_eq_of_lt (a := c % 128) (by omega) (by omega), u64_or_low _ _ (by omega) (by omega) (by omega) (by omega) (by omega)]
  omega

set_option maxRecDepth 100000 in
set_option maxHeartbeats 1000000 in
/-- b1HornerUvarint -/
theorem f14_any (w : World) (a : Option Addr) (l : List Nat) (cap i : Nat) (hlen : l.length ≤ 1073741824) (hi : i ≤ 9223372036854775807) (h : Lies w a l) :
    Calls Try.prog 14 #[.slice a l.length cap, .int .i64 (i : Int)] w fun e w' => e = .returned (.tuple #[.int .u64 ((uvar l i).1 : Int), .int .i64 ((uvar l i).2 : Int)]) ∧ w' = w := by
  generalize hn : l.length = n at *
  go_enter Try.func14, Try.ntmps14
  go_wp2
  go_loop [6, 7] (fun en j => en = .int .i64 (-1) ∧ ∃ k J : Nat, k ≤ 10 ∧ j = .int .i64 (J : Int) ∧ J = i + k ∧ J ≤ 9223372036854775807 ∧ Goes l i k)
    (fun _ j => i + 11 - (intOf j).toNat)
  case atStart => exact ⟨rfl, 0, i, by omega, rfl, by omega, by omega, goes_start l i⟩
  case round =>
    obtain ⟨rfl, k, J, hk, rfl, hJ, hik, hg⟩ := hrel
    have HG := hide hg
    have HJ := hide hJ
    clear hg
    by_cases hlt : J < n
    · have hlt' : (J : Int) < (n : Int) := by omega
      by_cases h10 : k < 10
      · have h10' : (J : Int) - (i : Int) < 10 := by omega
        have hin : i < n := by omega
        obtain ⟨R, rfl, hc⟩ := h.2 (by omega)
        have hcell := hc J (by omega)
        have hb := h.1 J (by omega)
        generalize hcc : gb l J = c at *
        have HC := hide hcc
        have HCS := hide hc
        have HL := hide h
        clear hc h hJ hcc
        by_cases hend : c < 128
        · have hend' : (c : Int) < 128 := by omega
          go_wp2
          go_loop [8, 9] (fun v j => ∃ (m V : Nat), v = .int .u64 (V : Int) ∧ m ≤ k + 1 ∧ V = val l (J + 1 - m) m % 18446744073709551616 ∧ j = .int .i64 ((J : Int) - m))
            (fun _ j => (intOf j + 1).toNat)
          case atStart => exact ⟨0, 0, rfl, by omega, rfl, by simp⟩
          case round =>
            obtain ⟨m, V, rfl, hm, hV, rfl⟩ := hrel
            have hJ := HJ.out
            have hVl : V < 18446744073709551616 := by omega
            by_cases hmk : m ≤ k
            · have hge : (i : Int) ≤ (J : Int) - m := by omega
              obtain ⟨Q, hQ⟩ : ∃ Q : Nat, Q = J - m := ⟨_, rfl⟩
              have hQ' : (J : Int) - m = (Q : Int) := by omega
              rw [hQ'] at hge
              rw [hQ']
              have hqc := HCS.out Q (by omega)
              have hqb := HL.out.1 Q (by omega)
              have hqi : Q < n := by omega
              have hval : val l (J + 1 - (m + 1)) (m + 1) = gb l Q % 128 + 128 * val l (J + 1 - m) m := by
                rw [val, show J + 1 - (m + 1) = Q by omega, show Q + 1 = J + 1 - m by omega]
              generalize gb l Q = q at *
              have HVAL := hide hval
              have HV := hide hV
              have HQ := hide hQ
              have HM := hide hmk
              have HQ2 := hide hQ'
              clear hval hV hQ hJ hmk hQ' hm
              go_wp2
              have hm := HM.out
              have hQ := HQ.out
              have hJ := HJ.out
              refine ⟨⟨m + 1, _, ?_, by omega, rfl, ?_⟩, ?_⟩
              · rw [horner_round _ _ (by omega) (by omega) (by omega) (by omega), HVAL.out]
                have hV := HV.out
                congr 1
                omega
              · congr 1
                omega
              · simp [intOf]
            · have hge : ¬ (i : Int) ≤ (J : Int) - m := by omega
              have hmk : m = k + 1 := by omega
              have HV := hide hV
              have HMK := hide hmk
              clear hV hmk hJ hm
              go_wp2
              go_ret2
              have hJ := HJ.out
              have hmk := HMK.out
              have hC := HC.out
              have hV := HV.out
              subst hmk
              have e1 : J + 1 - (k + 1) = i := by omega
              rw [e1] at hV
              rw [goes_ends HG.out h10 (by omega) (by rw [← hJ]; omega), hV, hJ]
              exact ⟨by simp, rfl⟩
        · have hend' : ¬ (c : Int) < 128 := by omega
          go_wp2
          have hJ := HJ.out
          have hC := HC.out
          refine ⟨⟨rfl, k + 1, J + 1, by omega, by go_num, by omega, by omega, ?_⟩, ?_⟩
          · subst hJ; exact goes_next HG.out h10 (by omega) (by omega)
          · simp [intOf]; omega
      · have h10' : ¬ (J : Int) - (i : Int) < 10 := by omega
        clear hJ
        go_wp2
        go_ret2
        rw [goes_none HG.out (.inl (by omega)), hn]
        exact ⟨rfl, rfl⟩
    · have hlt' : ¬ (J : Int) < (n : Int) := by omega
      clear hJ
      go_wp2
      go_ret2
      have hJ := HJ.out
      rw [goes_none HG.out (.inr (by omega)), hn]
      exact ⟨rfl, rfl⟩
end Go.Proofs.Qxb6000182a
