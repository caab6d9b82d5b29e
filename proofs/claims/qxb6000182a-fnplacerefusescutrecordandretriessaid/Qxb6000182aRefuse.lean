import Derived.Test.Qxb6000182aBack
/-! FnPlaceRefusesCutRecordAndRetries returns true. -/
namespace Go.Proofs.Qxb6000182a
open Go.RowKit
set_option linter.unusedSimpArgs false
set_option linter.unusedVariables false
attribute [local go_sem ↓] Go.wp_at_zero Go.wp_at_succ

theorem Lies.take {w : World} {a : Option Addr} {l : List Nat} (h : Lies w a l) (k : Nat) : Lies w a (l.take k) := by
  have hg : ∀ i, i < (l.take k).length → gb (l.take k) i = gb l i := by
    intro i hi
    have : i < k := by simp at hi; omega
    simp [gb, List.getD_eq_getElem?_getD, List.getElem?_take, this]
  refine ⟨fun i hi => by rw [hg i hi]; exact h.1 i (by simp at hi; omega), fun hp => ?_⟩
  obtain ⟨R, hR, hc⟩ := h.2 (by simp at hp; omega)
  exact ⟨R, hR, fun i hi => by rw [hg i hi]; exact hc i (by simp at hi; omega)⟩

set_option maxRecDepth 100000 in
set_option maxHeartbeats 4000000 in
theorem f7_any (sec line series secStep step rS rL tS tN aS aN : Int) (w : World)
    (hrS : I64 rS) (hrL : I64 rL) (htS : I64 tS) (htN : I32 tN) (haS : I64 aS) (haN : I32 aN) :
    Calls Try.prog 7 #[.int .i64 sec, .int .i64 line, .int .i64 series, .int .i64 secStep, .int .i64 step, .int .i64 rS, .int .i64 rL, .int .i64 tS, .int .i32 tN, .int .i64 aS, .int .i32 aN] w fun e w' => e = .returned (.bool true) ∧ Below w.heap.size w w' := by
  obtain ⟨ns, hns⟩ : ∃ ns, ns = wrap64 (rL - line) := ⟨_, rfl⟩
  obtain ⟨nss, hnss⟩ : ∃ nss, nss = wrap64 (tS - sec) := ⟨_, rfl⟩
  obtain ⟨b1, h1⟩ : ∃ b, b = decide (rS = series) := ⟨_, rfl⟩
  obtain ⟨b2, h2⟩ : ∃ b, b = (decide (ns = step) && decide (nss = secStep)) := ⟨_, rfl⟩
  obtain ⟨b3, h3⟩ : ∃ b, b = (decide (tN = 0) && decide (aN = 0)) := ⟨_, rfl⟩
  obtain ⟨b4, h4⟩ : ∃ b, b = (!decide (aS = tS) || !decide (aN = tN)) := ⟨_, rfl⟩
  have M := fun secStep' step' hst => means_of (sec := sec) (line := line) (series := series) (secStep := secStep) (step := step) (secStep' := secStep') (step' := step') hrS hrL htS htN haS haN hns hnss h1 h2 h3 h4 hst
  have n1 : I64 ns := hns ▸ i64_wrap _
  have n2 : I64 nss := hnss ▸ i64_wrap _
  have ok : (nums rS ns nss tS tN aS aN).Ok := nums_ok n1 n2
  have H21 := hide (fun w => f21_any w sec line series secStep step rS rL tS tN aS aN ns nss b1 b2 b3 b4 (nums rS ns nss tS tN aS aN) hns hnss h1 h2 h3 h4 n1 n2 (by simp only [nums]; rw [IntKind.wrap_u64]; omega) rfl rfl (by simp only [nums]; omega) (by simp only [nums]; rw [IntKind.wrap_u64]; omega) (by simp only [nums]; omega) ok)
  have HE := hide (recd_bytes b1 b2 b3 b4 _ ok)
  have HEl := hide (rec_len b1 b2 b3 b4 _ ok)
  have HEp := hide (rec_pos b1 b2 b3 b4 (nums rS ns nss tS tN aS aN))
  have HEh : Hid (gb (recd b1 b2 b3 b4 (nums rS ns nss tS tN aS aN)) 0 = flg b1 b2 b3 b4) := hide rfl
  have HG : Hid (∀ k, k < (recd b1 b2 b3 b4 (nums rS ns nss tS tN aS aN)).length → ∃ ss st p', Got ((recd b1 b2 b3 b4 (nums rS ns nss tS tN aS aN)).take k) ⟨sec, line, series, secStep, step⟩ ⟨0, 0, 0, 0, 0, 0, 0⟩ 0 ⟨sec, line, series, ss, st⟩ p' ∧
      Got (recd b1 b2 b3 b4 (nums rS ns nss tS tN aS aN)) ⟨sec, line, series, ss, st⟩ ⟨0, 0, 0, 0, 0, 0, 0⟩ (recd b1 b2 b3 b4 (nums rS ns nss tS tN aS aN)).length ⟨tS, rL, rS, nss, ns⟩ ⟨rS, rL, tS, tN, aS, aN, flg b1 b2 b3 b4⟩) := hide (fun k hk => by
    obtain ⟨ss, st, p', g1, g2⟩ := got_cut ok ⟨sec, line, series, secStep, step⟩ ⟨0, 0, 0, 0, 0, 0, 0⟩ k hk
    exact ⟨ss, st, p', g1, got_whole (M ss st g2) _ _ [] (List.append_nil _).symm⟩)
  have HNS := hide hns
  have HNSS := hide hnss
  generalize recd b1 b2 b3 b4 (nums rS ns nss tS tN aS aN) = E at *
  generalize hn : E.length = n at *
  have HN := hide hn
  have hnb := HEl.out
  generalize flg b1 b2 b3 b4 = fl at *
  clear M ok n1 n2 h1 h2 h3 h4 hns hnss hn hrS hrL htS htN haS haN
  go_enter Try.func7, Try.ntmps7
  go_wp2_with fail
  refine (H21.out w).mono ?_
  rintro e w1 ⟨g, rfl, hP⟩
  have HO1 := hide hP.own
  have HC1 := hide hP.chg
  have HNW := hide hP.new
  clear hP H21
  go_wp2_with fail
  go_loopw [24] (fun i wr => ∃ k : Nat, i = .int .i64 (k : Int) ∧ k ≤ n ∧ Hid (Chg w1 wr (fun _ => False))) (fun i _ => n - (intOf i).toNat)
  case atStart => exact ⟨0, rfl, Nat.zero_le _, hide (Chg.refl _ _)⟩
  case round =>
    obtain ⟨k, rfl, hk, hCr⟩ := hrel
    generalize wr = w2 at *
    by_cases hlt : k < n
    · have hlt' : (k : Int) < (n : Int) := by omega
      have hk64 : (k : Int) ≤ 64 := by omega
      have hk64' : k ≤ 64 := by omega
      obtain ⟨ss, st, p', hg1, hg2⟩ := HG.out k hlt
      have G1 := hide hg1
      have G2 := hide hg2
      clear hg1 hg2
      obtain ⟨mk, hmk, hmks⟩ : ∃ mk : Array Value, (∀ w : World, (Instr.makeSlice 22 (.int .i64 0) (.int .i64 (k : Int))).run Try.prog w = .ok (.slice (some ⟨w.heap.size, 0, none⟩) 0 k) (w.alloc (.cells mk 5))) ∧ mk.size = k := ⟨_, fun w => mkRow k (by omega) w, size_madeCells _ _⟩
      obtain ⟨mw, hmw, hmws⟩ : ∃ mk : Array Value, (∀ w : World, (Instr.makeSlice 22 (.int .i64 0) (.int .i64 (n : Int))).run Try.prog w = .ok (.slice (some ⟨w.heap.size, 0, none⟩) 0 n) (w.alloc (.cells mk 5))) ∧ mk.size = n := ⟨_, fun w => mkRow n (by omega) w, size_madeCells _ _⟩
      have HMK := hide hmks
      have HMW := hide hmws
      clear hmks hmws
      have HO2 : Hid (Own w2 g 64 E) := hide (HO1.out.chg hCr.out id)
      have Hg2 : Hid (g < w2.heap.size) := hide HO2.out.lt
      go_wp2_with fail
      have O3 : Hid (Own (w2.alloc (.cells mk 5)) w2.heap.size k []) := hide (Own.mk mk (heap_new _ rfl) (by simp) (by unfold maxLen; omega) HMK.out (by simp))
      have C3 : Hid (Chg w2 (w2.alloc (.cells mk 5)) (fun _ => False)) := hide (Chg.ofAlloc _ _ _)
      generalize w2.alloc (.cells mk 5) = w3 at O3 C3 ⊢
      have Bn : Hid (w2.heap.size ≤ w2.heap.size) := hide (Nat.le_refl _)
      generalize hB : w2.heap.size = B at O3 Hg2 Bn ⊢
      have HBe := hide hB
      clear hB
      have Lg3 : Hid (Lies w3 (some ⟨g, 0, none⟩) E) := hide ((HO2.out.lies HE.out).chg C3.out (fun _ _ => id))
      have H17 := hide (f17_any w3 B k 0 k 64 (some ⟨g, 0, none⟩) [] (E.take k) rfl (by have := HN.out; simp; omega) O3.out (Lg3.out.take k) (fun e => by have := Hg2.out; cases e; omega) (by omega) (by omega))
      simp only [Nat.zero_add, List.nil_append] at H17
      refine H17.out.mono ?_
      rintro e w4 ⟨rfl, hO4, hC4⟩
      have O4 := hide hO4
      have C24 : Hid (Chg w2 w4 (fun _ => False)) := hide (C3.out.trans hC4 (fun _ _ => id) (fun j hj e => by have := HBe.out; omega))
      have B4 := hide hO4.lt
      have Og4 : Hid (Own w4 g 64 E) := hide (HO2.out.chg C24.out id)
      clear hO4 hC4 H17 O3 C3 Lg3
      go_wp2_with fail
      have A2 := hide (alloc2 w4 (.cells #[.int .i64 sec, .int .i64 line, .int .i64 series, .int .i64 secStep, .int .i64 step] 34) (.cells #[.int .i64 0, .int .i64 0, .int .i64 0, .int .i32 0, .int .i64 0, .int .i32 0, .int .u8 0] 36))
      generalize (w4.alloc (.cells #[.int .i64 sec, .int .i64 line, .int .i64 series, .int .i64 secStep, .int .i64 step] 34)).alloc (.cells #[.int .i64 0, .int .i64 0, .int .i64 0, .int .i32 0, .int .i64 0, .int .i32 0, .int .u8 0] 36) = w5 at A2 ⊢
      have S2 := C24.out.size
      have X1 : Hid (B < w4.heap.size ∧ g < w4.heap.size ∧ w2.heap.size ≤ w4.heap.size ∧ w4.heap.size ≤ w5.heap.size) := hide (by have := A2.out.2.2.size; have := Og4.out.lt; have := B4.out; omega)
      have L5 : Hid (Lies w5 (some ⟨B, 0, none⟩) (E.take k)) := hide ((O4.out.lies (fun x hx => HE.out x (List.mem_of_mem_take hx))).chg A2.out.2.2 (fun _ _ => id))
      have Z5 : Hid (Zt w5 w4.heap.size (w4.heap.size + 1) ⟨sec, line, series, secStep, step⟩ ⟨0, 0, 0, 0, 0, 0, 0⟩) := hide ⟨A2.out.1, A2.out.2.1, by omega⟩
      have C25 : Hid (Chg w2 w5 (fun _ => False)) := hide (C24.out.chain A2.out.2.2)
      have s2 : Hid (w4.heap.size < w4.heap.size + 1) := hide (by omega)
      have S5 : Hid (w4.heap.size + 1 < w5.heap.size) := hide (Array.getElem?_eq_some_iff.1 A2.out.2.1).1
      clear A2 C24 S2
      generalize w4.heap.size + 1 = Q at *
      generalize w4.heap.size = Z at *
      refine (f22_any w5 (some ⟨B, 0, none⟩) (E.take k) k k Z Q _ _ _ _ _ (by have := HN.out; simp; omega) (by omega) L5.out Z5.out (fun R hR => by cases hR; have := X1.out; have := s2.out; omega) G1.out).mono ?_
      rintro e w6 ⟨rfl, hZ6, hC6⟩
      have Z6 := hide hZ6
      have C26 : Hid (Chg w2 w6 (fun _ => False)) := hide (C25.out.trans hC6 (fun _ _ => id) (fun j hj e => by have := X1.out; have := s2.out; omega))
      have z0 : w6.cell? ⟨Z, 0, none⟩ = some (.int .i64 sec) := cell_of_block hZ6.hZ 0
      have z1 : w6.cell? ⟨Z, 1, none⟩ = some (.int .i64 line) := cell_of_block hZ6.hZ 1
      have z2 : w6.cell? ⟨Z, 2, none⟩ = some (.int .i64 series) := cell_of_block hZ6.hZ 2
      have Z6lt : Hid (Z < w6.heap.size ∧ w5.heap.size ≤ w6.heap.size) := hide ⟨World.block_lt_of_cell? w6 _ z0, hC6.size⟩
      clear hZ6 hC6 G1 L5 Z5 C25
      have Og6 : Hid (Own w6 g 64 E) := hide (HO2.out.chg C26.out id)
      go_wp2_with fail
      clear z0 z1 z2
      have O7 : Hid (Own (w6.alloc (.cells mw 5)) w6.heap.size n []) := hide (Own.mk mw (heap_new _ rfl) (by simp) (by unfold maxLen; omega) HMW.out (by simp))
      have C7 : Hid (Chg w6 (w6.alloc (.cells mw 5)) (fun _ => False)) := hide (Chg.ofAlloc _ _ _)
      generalize w6.alloc (.cells mw 5) = w7 at O7 C7 ⊢
      generalize hW : w6.heap.size = W at O7 Z6lt ⊢
      have HW := hide hW
      clear hW
      have Lg7 : Hid (Lies w7 (some ⟨g, 0, none⟩) E) := hide ((Og6.out.lies HE.out).chg C7.out (fun _ _ => id))
      have H17 := hide (f17_any w7 W n 0 n 64 (some ⟨g, 0, none⟩) [] E rfl HN.out O7.out Lg7.out (fun e => by have := Og6.out.lt; have := HW.out; cases e; omega) (by omega) (by omega))
      simp only [Nat.zero_add, List.nil_append] at H17
      refine H17.out.mono ?_
      rintro e w8 ⟨rfl, hO8, hC8⟩
      have O8 := hide hO8
      have C68 : Hid (Chg w6 w8 (fun _ => False)) := hide (C7.out.trans hC8 (fun _ _ => id) (fun j hj e => by have := HW.out; omega))
      have X2 : Hid (W < w8.heap.size ∧ w6.heap.size ≤ w8.heap.size) := hide ⟨hO8.lt, C68.out.size⟩
      clear hO8 hC8 H17 O7 C7 Lg7
      go_wp2_with fail
      have A9 := hide (heap_new (w := w8) (.cells #[.int .i64 0, .int .i64 0, .int .i64 0, .int .i32 0, .int .i64 0, .int .i32 0, .int .u8 0] 36) rfl)
      have C9 := hide (Chg.ofAlloc w8 (.cells #[.int .i64 0, .int .i64 0, .int .i64 0, .int .i32 0, .int .i64 0, .int .i32 0, .int .u8 0] 36) (fun _ => False))
      generalize w8.alloc (.cells #[.int .i64 0, .int .i64 0, .int .i64 0, .int .i32 0, .int .i64 0, .int .i32 0, .int .u8 0] 36) = w9 at A9 C9 ⊢
      have C69 : Hid (Chg w6 w9 (fun _ => False)) := hide (C68.out.chain C9.out)
      have L9 : Hid (Lies w9 (some ⟨W, 0, none⟩) E) := hide ((O8.out.lies HE.out).chg C9.out (fun _ _ => id))
      have X3 : Hid (Z < w8.heap.size ∧ W < w8.heap.size ∧ w8.heap.size < w9.heap.size ∧ Z ≠ W ∧ g < w6.heap.size) := hide (by have := Z6lt.out; have := X2.out; have := HW.out; have := (Array.getElem?_eq_some_iff.1 A9.out).1; have := Og6.out.lt; omega)
      have Z9 : Hid (Zt w9 Z w8.heap.size ⟨sec, line, series, ss, st⟩ ⟨0, 0, 0, 0, 0, 0, 0⟩) := hide ⟨C69.out.heap Z6.out.hZ id, A9.out, by have := X3.out; omega⟩
      have X4 : Hid (w6.heap.size ≤ w8.heap.size) := hide X2.out.2
      clear A9 C9 C68
      generalize w8.heap.size = V at *
      refine (f22_any w9 (some ⟨W, 0, none⟩) E n n Z V _ _ _ _ _ HN.out (by omega) L9.out Z9.out (fun R hR => by cases hR; have := X3.out; omega) G2.out).mono ?_
      rintro e w10 ⟨rfl, hZ10, hC10⟩
      have C10 : Hid (Chg w2 w10 (fun _ => False)) := hide ((C26.out.chain C69.out).trans hC10 (fun _ _ => id) (fun j hj e => by have := X1.out; have := s2.out; have := X4.out; have := C26.out.size; omega))
      have Og10 : Hid (Own w10 g 64 E) := hide (HO2.out.chg C10.out id)
      obtain ⟨g', hg', hcg⟩ := (Og10.out.lies HE.out).2 (by have := HN.out; have := HEp.out; omega)
      cases hg'
      have cg := hcg 0 (by have := HN.out; have := HEp.out; omega)
      rw [HEh.out] at cg
      clear hcg
      have q0 : w10.cell? ⟨V, 0, none⟩ = some (.int .i64 rS) := cell_of_block hZ10.hQ 0
      have q1 : w10.cell? ⟨V, 1, none⟩ = some (.int .i64 rL) := cell_of_block hZ10.hQ 1
      have q2 : w10.cell? ⟨V, 2, none⟩ = some (.int .i64 tS) := cell_of_block hZ10.hQ 2
      have q3 : w10.cell? ⟨V, 3, none⟩ = some (.int .i32 tN) := cell_of_block hZ10.hQ 3
      have q4 : w10.cell? ⟨V, 4, none⟩ = some (.int .i64 aS) := cell_of_block hZ10.hQ 4
      have q5 : w10.cell? ⟨V, 5, none⟩ = some (.int .i32 aN) := cell_of_block hZ10.hQ 5
      have q6 : w10.cell? ⟨V, 6, none⟩ = some (.int .u8 (fl : Int)) := cell_of_block hZ10.hQ 6
      have y0 : w10.cell? ⟨Z, 0, none⟩ = some (.int .i64 tS) := cell_of_block hZ10.hZ 0
      have y1 : w10.cell? ⟨Z, 1, none⟩ = some (.int .i64 rL) := cell_of_block hZ10.hZ 1
      have y2 : w10.cell? ⟨Z, 2, none⟩ = some (.int .i64 rS) := cell_of_block hZ10.hZ 2
      have y3 : w10.cell? ⟨Z, 3, none⟩ = some (.int .i64 nss) := cell_of_block hZ10.hZ 3
      have y4 : w10.cell? ⟨Z, 4, none⟩ = some (.int .i64 ns) := cell_of_block hZ10.hZ 4
      have lV : V < w10.heap.size := World.block_lt_of_cell? w10 _ q0
      have lZ : Z < w10.heap.size := World.block_lt_of_cell? w10 _ y0
      have lg : g < w10.heap.size := World.block_lt_of_cell? w10 _ cg
      have hpn : (0 : Int) < (n : Int) := by have := HEp.out; omega
      have hpn2 : 0 < n := by have := HEp.out; omega
      clear hZ10 hC10 Z9 L9
      go_wp2_with fail
      go_region_held3 (fun w' => w'.cell? ⟨V, 0, none⟩ = some (.int .i64 rS) ∧ w'.cell? ⟨V, 1, none⟩ = some (.int .i64 rL) ∧ w'.cell? ⟨V, 2, none⟩ = some (.int .i64 tS) ∧ w'.cell? ⟨V, 3, none⟩ = some (.int .i32 tN) ∧ w'.cell? ⟨V, 4, none⟩ = some (.int .i64 aS) ∧ w'.cell? ⟨V, 5, none⟩ = some (.int .i32 aN) ∧ w'.cell? ⟨V, 6, none⟩ = some (.int .u8 (fl : Int)) ∧ w'.cell? ⟨g, 0, none⟩ = some (.int .u8 (fl : Int))) (go_keep) ((go_at_call 23; refine (f23_same _ rS rL tS tN aS aN (fl : Int)).mono ?_; rintro e w11 ⟨rfl, o11, rfl⟩))
      rename_i hh
      clear hh
      go_wp2_with fail
      rw [← HNSS.out, ← HNS.out]
      refine (f24_same _ tS rL rS nss ns).mono ?_
      rintro e w12 ⟨rfl, o12, rfl⟩
      go_wp2
      go_roundw
      case rel => exact ⟨k + 1, by go_num, by omega, hide (((hCr.out.chain C10.out).alloc o11).drew.alloc o12)⟩
      case measure => simp [intOf]; omega
    · have hlt' : ¬ (k : Int) < (n : Int) := by omega
      go_wp2
      go_ret
      exact ⟨rfl, (HC1.out.chain hCr.out).below (Nat.le_refl _) (fun _ _ h => h)⟩
end Go.Proofs.Qxb6000182a
