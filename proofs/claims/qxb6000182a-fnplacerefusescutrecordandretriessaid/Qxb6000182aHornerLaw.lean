import Derived.Test.Qxb6000182aHorner
import Derived.Test.Qxb6000182aClone
import Derived.Below
/-! FnLongUvarintAtMatchesHornerModel returns true. -/
namespace Go.Proofs.Qxb6000182a
open Go.RowKit
set_option linter.unusedSimpArgs false
set_option linter.unusedVariables false

set_option maxHeartbeats 400000 in
theorem f11_any (a : Option Addr) (len cap : Nat) (i : Int) (w : World) (h : len ≤ maxLen) :
    Calls Try.prog 11 #[.slice a len cap, .int .i64 i] w fun e w' => e = .returned (.bool (decide (len ≤ 1048576))) ∧ w' = w := by
  unfold maxLen at h
  by_cases hb : len ≤ 1048576
  · have h1 : ¬ (1048576 : Int) < (len : Int) := by omega
    go_enter Try.func11, Try.ntmps11
    go_wp2
    go_ret
    exact ⟨by simp [hb], rfl⟩
  · have h1 : (1048576 : Int) < (len : Int) := by omega
    go_enter Try.func11, Try.ntmps11
    go_wp2
    go_ret
    exact ⟨by simp [hb], rfl⟩

theorem u8_of_wf {z : Int} (h : (Lit.int .u8 z).wf = true) : 0 ≤ z ∧ z < 256 := by
  have h0 : IntKind.u8.min = 0 := rfl
  have h1 : IntKind.u8.max = 255 := rfl
  simp [Lit.wf] at h
  omega

/-- the numbers of a row that came in, as a list of bytes -/
theorem bytes_of (w : World) (a : Option Addr) (len cap : Nat) (zs : List Int)
    (h : (a = none ∧ len = 0 ∧ cap = 0 ∧ zs = []) ∨
      ∃ x, a = some x ∧ len ≤ cap ∧ cap ≤ maxLen ∧ zs.length = cap ∧ (∀ i, i < zs.length → w.cell? (x.add i) = some (.int .u8 (zs.getD i 0))) ∧ ∀ n ∈ zs, (Lit.int .u8 n).wf = true) :
    len ≤ maxLen ∧ ∃ l : List Nat, l.length = len ∧ (∀ i, i < l.length → gb l i < 256) ∧ ((a = none ∧ l.length = 0 ∧ cap = 0) ∨ ∃ x, a = some x ∧ ∀ i, i < l.length → w.cell? (x.add i) = some (.int .u8 (gb l i : Int))) := by
  rcases h with ⟨rfl, rfl, rfl, rfl⟩ | ⟨x, rfl, hl, hm, hz, hc, hw⟩
  · exact ⟨by decide, [], rfl, fun i hi => by simp at hi, .inl ⟨rfl, rfl, rfl⟩⟩
  · have hv : ∀ i, i < len → 0 ≤ zs.getD i 0 ∧ zs.getD i 0 < 256 ∧ gb ((zs.take len).map Int.toNat) i = (zs.getD i 0).toNat := by
      intro i hi
      have hiz : i < zs.length := by omega
      have hmem : zs.getD i 0 ∈ zs := by rw [List.getD_eq_getElem?_getD, List.getElem?_eq_getElem hiz]; exact List.getElem_mem hiz
      have hwf := u8_of_wf (hw _ hmem)
      refine ⟨hwf.1, hwf.2, ?_⟩
      simp [gb, List.getD_eq_getElem?_getD, List.getElem?_take, hi, List.getElem?_eq_getElem hiz]
    have hlen : ((zs.take len).map Int.toNat).length = len := by simp; omega
    refine ⟨by omega, (zs.take len).map Int.toNat, hlen, ?_, .inr ⟨x, rfl, ?_⟩⟩
    · intro i hi
      have := hv i (by omega)
      omega
    · intro i hi
      have h1 := hv i (by omega)
      rw [h1.2.2, hc i (by omega)]
      have : ((zs.getD i 0).toNat : Int) = zs.getD i 0 := by omega
      rw [this]

set_option maxHeartbeats 1000000 in
theorem f3_any (a0 : Option Addr) (l : List Nat) (len0 cap0 : Nat) (i : Int) (w : World) (hi : i ≤ 9223372036854775807) (hl : l.length = len0) (hm : len0 ≤ maxLen) (hb : ∀ i, i < l.length → gb l i < 256)
    (h : (a0 = none ∧ l.length = 0 ∧ cap0 = 0) ∨ ∃ x, a0 = some x ∧ ∀ i, i < l.length → w.cell? (x.add i) = some (.int .u8 (gb l i : Int))) :
    Calls Try.prog 3 #[.slice a0 len0 cap0, .int .i64 i] w fun e w' => e = .returned (.bool true) ∧ Below w.heap.size w w' := by
  have h11 := f11_any a0 len0 cap0 i w hm
  by_cases hbd : len0 ≤ 1048576
  · rw [decide_eq_true hbd] at h11
    have hbd' : ¬ (1048576 : Int) < (len0 : Int) := by omega
    have HM := hide hm
    clear hm
    by_cases hneg : i < 0
    · go_enter Try.func3, Try.ntmps3
      go_wp2_with fail
      refine h11.mono ?_
      rintro e w' ⟨rfl, rfl⟩
      go_wp2
      go_ret
      exact ⟨rfl, Below.refl _ _⟩
    · obtain ⟨n, rfl⟩ : ∃ n : Nat, i = n := ⟨i.toNat, by omega⟩
      subst hl
      have h12 := f12_all w a0 l cap0 (by omega) hb h
      have H13 := hide (fun w' ar cap' (hL : Lies w' ar l) => f13_any w' ar l cap' n (by omega) (by omega) hL)
      have H14 := hide (fun w' ar cap' (hL : Lies w' ar l) => f14_any w' ar l cap' n (by omega) (by omega) hL)
      generalize uvar l n = u at *
      clear h hb
      go_enter Try.func3, Try.ntmps3
      go_wp2_with fail
      refine h11.mono ?_
      rintro e w' ⟨rfl, rfl⟩
      go_wp2_with fail
      refine h12.mono ?_
      rintro e w' ⟨ar, cap', rfl, hL, -, hC⟩
      have HL := hide hL
      have HC := hide hC
      clear hL hC h12 h11
      go_wp2_with fail
      refine (H13.out w' ar cap' HL.out).mono ?_
      rintro e w2 ⟨rfl, rfl⟩
      go_wp2_with fail
      refine (H14.out w2 ar cap' HL.out).mono ?_
      rintro e w3 ⟨rfl, rfl⟩
      go_wp2
      go_ret
      exact ⟨by simp, HC.out.below (Nat.le_refl _) (fun _ _ h => h)⟩
  · rw [decide_eq_false hbd] at h11
    go_enter Try.func3, Try.ntmps3
    go_wp2_with fail
    refine h11.mono ?_
    rintro e w' ⟨rfl, rfl⟩
    go_wp2
    go_ret
    exact ⟨rfl, Below.refl _ _⟩
end Go.Proofs.Qxb6000182a
