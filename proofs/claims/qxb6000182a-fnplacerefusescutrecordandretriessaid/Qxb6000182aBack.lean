import Derived.Test.Qxb6000182aMeans
import Derived.Test.Qxb6000182aZZ
import Derived.Test.Qxb6000182aIs
import Derived.Test.Qxb6000182aHornerLaw
import Derived.Deep.RegionHeld3
import Derived.BigQuiet
/-! FnPlaceReadsBackEncodedRecord returns true. -/
namespace Go.Proofs.Qxb6000182a
open Go.RowKit
set_option linter.unusedSimpArgs false
set_option linter.unusedVariables false
attribute [local go_sem ↓] Go.wp_at_zero Go.wp_at_succ

theorem mkRow (n : Nat) (h : n ≤ 1073741824) (w : World) : (Instr.makeSlice 22 (.int .i64 0) (.int .i64 (n : Int))).run Try.prog w =
    .ok (.slice (some ⟨w.heap.size, 0, none⟩) 0 n) (w.alloc (.cells (madeCells #[.int .u8 0] n) 5)) := by
  obtain ⟨i, hi, hz0, hz1, hz2⟩ := info_parts info5
  have := run_make (P := Try.prog) w 22 5 i _ Try.underlying22 hi hz0 .i64 .i64 0 (n : Int) (by omega) (by omega) (by rw [hz2]; omega) (by omega)
  rw [hz1] at this
  simpa [Value.cells] using this

theorem uv_bytes {v : Nat} (h : v < 18446744073709551616) : ∀ x ∈ uv v, x < 256 := uv_byte64 h
theorem recd_bytes (b1 b2 b3 b4 : Bool) (m : Nums) (hm : m.Ok) : ∀ x ∈ recd b1 b2 b3 b4 m, x < 256 := by
  intro x hx
  have h0 := flg_lt b1 b2 b3 b4
  have h1 := uv_byte64 hm.s x
  have h2 := uv_byte64 hm.z1 x
  have h3 := uv_byte64 hm.z2 x
  have h4 := uv_byte64 (v := m.t) (by have := hm.t; omega) x
  have h5 := uv_byte64 hm.d x
  have h6 := uv_byte64 (v := m.u) (by have := hm.u; omega) x
  simp only [recd, List.mem_cons, List.mem_append] at hx
  rcases hx with rfl | hx | hx | hx | hx
  · exact h0
  · unfold part1 at hx; split at hx
    · cases hx
    · exact h1 hx
  · unfold part2 at hx; split at hx
    · cases hx
    · rcases List.mem_append.1 hx with h | h
      · exact h2 h
      · exact h3 h
  · unfold part3 at hx; split at hx
    · cases hx
    · exact h4 hx
  · unfold part4 at hx; split at hx
    · rcases List.mem_append.1 hx with h | h
      · exact h5 h
      · split at h
        · cases h
        · exact h6 h
    · cases hx
theorem bytes_mem {l : List Nat} (h : ∀ i, i < l.length → gb l i < 256) : ∀ x ∈ l, x < 256 := by
  intro x hx
  obtain ⟨i, hi, rfl⟩ := List.mem_iff_getElem.1 hx
  have := h i hi
  simpa [gb, List.getD_eq_getElem?_getD, List.getElem?_eq_getElem hi] using this

theorem alloc2 (w : World) (A B : Obj) : (((w.alloc A).alloc B).heap[w.heap.size]? = some A) ∧ (((w.alloc A).alloc B).heap[w.heap.size + 1]? = some B) ∧ Chg w ((w.alloc A).alloc B) (fun _ => False) :=
  ⟨heap_old _ (heap_new _ rfl), heap_new _ (by simp), (Chg.ofAlloc w _ _).alloc _⟩

set_option maxRecDepth 100000 in
set_option maxHeartbeats 4000000 in
theorem f6_any (a0 : Option Addr) (l : List Nat) (len0 cap0 : Nat) (sec line series secStep step rS rL tS tN aS aN : Int) (w : World) (hl : l.length = len0) (hm : len0 ≤ maxLen) (hb : ∀ i, i < l.length → gb l i < 256)
    (h : (a0 = none ∧ l.length = 0 ∧ cap0 = 0) ∨ ∃ x, a0 = some x ∧ ∀ i, i < l.length → w.cell? (x.add i) = some (.int .u8 (gb l i : Int)))
    (hrS : I64 rS) (hrL : I64 rL) (htS : I64 tS) (htN : I32 tN) (haS : I64 aS) (haN : I32 aN) (hbd : len0 ≤ 1048576) :
    Calls Try.prog 6 #[.int .i64 sec, .int .i64 line, .int .i64 series, .int .i64 secStep, .int .i64 step, .int .i64 rS, .int .i64 rL, .int .i64 tS, .int .i32 tN, .int .i64 aS, .int .i32 aN, .slice a0 len0 cap0] w fun e w' => e = .returned (.bool true) ∧ Below w.heap.size w w' := by
  have h20 := f20_any a0 len0 cap0 (.int .i64 sec) (.int .i64 line) (.int .i64 series) (.int .i64 secStep) (.int .i64 step) (.int .i64 rS) (.int .i64 rL) (.int .i64 tS) (.int .i32 tN) (.int .i64 aS) (.int .i32 aN) w hm
  rw [decide_eq_true hbd] at h20
  have hbd' : ¬ (1048576 : Int) < (len0 : Int) := by omega
  have h12 := f12_all w a0 l cap0 (by omega) hb h
  rw [hl] at h12
  obtain ⟨ns, hns⟩ : ∃ ns, ns = wrap64 (rL - line) := ⟨_, rfl⟩
  obtain ⟨nss, hnss⟩ : ∃ nss, nss = wrap64 (tS - sec) := ⟨_, rfl⟩
  obtain ⟨b1, h1⟩ : ∃ b, b = decide (rS = series) := ⟨_, rfl⟩
  obtain ⟨b2, h2⟩ : ∃ b, b = (decide (ns = step) && decide (nss = secStep)) := ⟨_, rfl⟩
  obtain ⟨b3, h3⟩ : ∃ b, b = (decide (tN = 0) && decide (aN = 0)) := ⟨_, rfl⟩
  obtain ⟨b4, h4⟩ : ∃ b, b = (!decide (aS = tS) || !decide (aN = tN)) := ⟨_, rfl⟩
  have M := means_of (sec := sec) (line := line) (series := series) (secStep := secStep) (step := step) hrS hrL htS htN haS haN hns hnss h1 h2 h3 h4 (fun _ => ⟨rfl, rfl⟩)
  have n1 : I64 ns := hns ▸ i64_wrap _
  have n2 : I64 nss := hnss ▸ i64_wrap _
  have H21 := hide (fun w => f21_any w sec line series secStep step rS rL tS tN aS aN ns nss b1 b2 b3 b4 (nums rS ns nss tS tN aS aN) hns hnss h1 h2 h3 h4 n1 n2 (by simp only [nums]; rw [IntKind.wrap_u64]; omega) rfl rfl (by simp only [nums]; omega) (by simp only [nums]; rw [IntKind.wrap_u64]; omega) (by simp only [nums]; omega) M.ok)
  have HE := hide (recd_bytes b1 b2 b3 b4 _ M.ok)
  have HEl := hide (rec_len b1 b2 b3 b4 _ M.ok)
  have HEp := hide (rec_pos b1 b2 b3 b4 (nums rS ns nss tS tN aS aN))
  have HEh : Hid (gb (recd b1 b2 b3 b4 (nums rS ns nss tS tN aS aN)) 0 = flg b1 b2 b3 b4) := hide rfl
  have HG := hide (fun p => got_whole M p _ l rfl)
  have HB := hide (bytes_mem hb)
  have HLn := hide hl
  have HNS := hide hns
  have HNSS := hide hnss
  generalize recd b1 b2 b3 b4 (nums rS ns nss tS tN aS aN) = E at *
  generalize hn : E.length = n at *
  have HN := hide hn
  have hnb := HEl.out
  generalize flg b1 b2 b3 b4 = fl at *
  clear hm h hb hl M n1 n2 h1 h2 h3 h4 hns hnss hn hrS hrL htS htN haS haN
  obtain ⟨mk, hmk, hmks⟩ : ∃ mk : Array Value, (∀ w : World, (Instr.makeSlice 22 (.int .i64 0) (.int .i64 ((n : Int) + (len0 : Int)))).run Try.prog w = .ok (.slice (some ⟨w.heap.size, 0, none⟩) 0 (n + len0)) (w.alloc (.cells mk 5))) ∧ mk.size = n + len0 := ⟨_, fun w => by have := mkRow (n + len0) (by omega) w; simpa using this, size_madeCells _ _⟩
  have HMKS := hide hmks
  clear hmks
  go_enter Try.func6, Try.ntmps6
  go_wp2_with fail
  refine h20.mono ?_
  rintro e w' ⟨rfl, rfl⟩
  go_wp2_with fail
  refine h12.mono ?_
  rintro e w1 ⟨ar, cap', rfl, hL, hR, hC⟩
  have HL := hide hL
  have HR := hide hR
  have HC := hide hC
  clear hL hR hC h12 h20
  go_wp2_with fail
  refine (H21.out w1).mono ?_
  rintro e w2 ⟨g, rfl, hP⟩
  have HP := hide hP
  clear hP
  go_wp2_with fail
  have O3 : Hid (Own (w2.alloc (.cells mk 5)) w2.heap.size (n + len0) []) := hide (Own.mk mk (heap_new _ rfl) (by simp) (by unfold maxLen; omega) HMKS.out (by simp))
  have C3 : Hid (Chg w2 (w2.alloc (.cells mk 5)) (fun _ => False)) := hide (Chg.ofAlloc _ _ _)
  have Hg : Hid (g ≠ w2.heap.size) := hide (by have := HP.out.own.lt; omega)
  have HRB : Hid (∀ R, ar = some ⟨R, 0, none⟩ → R ≠ w2.heap.size ∧ R < w2.heap.size) := hide (fun R hR => by have := HR.out R hR; have := HP.out.chg.size; omega)
  have HRg : Hid (w'.heap.size ≤ w2.heap.size ∧ w'.heap.size ≤ g) := hide (by have := HP.out.new; have := HP.out.chg.size; have := HC.out.size; omega)
  have C02 : Hid (Chg w' w2 (fun _ => False)) := hide (HC.out.chain HP.out.chg)
  have HL2 : Hid (Lies w2 ar l) := hide (HL.out.chg HP.out.chg (fun _ _ => id))
  have HO2 : Hid (Own w2 g 64 E) := hide HP.out.own
  clear HL HC HP HR
  generalize w2.alloc (.cells mk 5) = w3 at O3 C3 ⊢
  generalize w2.heap.size = B at *
  have Lg3 : Hid (Lies w3 (some ⟨g, 0, none⟩) E) := hide ((HO2.out.lies HE.out).chg C3.out (fun _ _ => id))
  have H17 := hide (f17_any w3 B (n + len0) 0 n 64 (some ⟨g, 0, none⟩) [] E rfl HN.out O3.out Lg3.out (fun e => Hg.out (by cases e; rfl)) (by omega) (by omega))
  simp only [Nat.zero_add, List.nil_append] at H17
  refine H17.out.mono ?_
  rintro e w4 ⟨rfl, hO4, hC4⟩
  have O4 := hide hO4
  have C4 := hide hC4
  clear hO4 hC4 H17
  have L4 : Hid (Lies w4 ar l) := hide ((HL2.out.chg C3.out (fun _ _ => id)).chg C4.out (fun R hR => (HRB.out R hR).1))
  have H17 := hide (f17_any w4 B (n + len0) n len0 cap' ar E l HN.out HLn.out O4.out L4.out (fun e => (HRB.out B e).1 rfl) (by omega) (by omega))
  go_wp2_with fail
  refine H17.out.mono ?_
  rintro e w5 ⟨rfl, hO5, hC5⟩
  have O5 := hide hO5
  have C5 := hide hC5
  clear hO5 hC5 H17
  have C35 : Hid (Chg w2 w5 (fun k => k = B)) := hide ((C3.out.trans C4.out (fun _ _ => False.elim) (fun _ _ h => h)).chain C5.out)
  have Og5 : Hid (Own w5 g 64 E) := hide (HO2.out.chg C35.out Hg.out)
  go_wp2_with fail
  have A2 := hide (alloc2 w5 (.cells #[.int .i64 sec, .int .i64 line, .int .i64 series, .int .i64 secStep, .int .i64 step] 34) (.cells #[.int .i64 0, .int .i64 0, .int .i64 0, .int .i32 0, .int .i64 0, .int .i32 0, .int .u8 0] 36))
  generalize (w5.alloc (.cells #[.int .i64 sec, .int .i64 line, .int .i64 series, .int .i64 secStep, .int .i64 step] 34)).alloc (.cells #[.int .i64 0, .int .i64 0, .int .i64 0, .int .i32 0, .int .i64 0, .int .i32 0, .int .u8 0] 36) = w6 at A2 ⊢
  have hB5 : B < w5.heap.size := O5.out.lt
  have hg5 : g < w5.heap.size := Og5.out.lt
  have HX : Hid (B ≠ w5.heap.size ∧ B ≠ w5.heap.size + 1 ∧ g ≠ w5.heap.size ∧ g ≠ w5.heap.size + 1 ∧ w5.heap.size ≠ w5.heap.size + 1 ∧ B < w6.heap.size ∧ w'.heap.size ≤ w5.heap.size ∧ w'.heap.size ≤ w5.heap.size + 1) := hide (by have := A2.out.2.2.size; have := HRg.out; omega)
  have L6 : Hid (Lies w6 (some ⟨B, 0, none⟩) (E ++ l)) := hide ((O5.out.lies (fun x hx => by rcases List.mem_append.1 hx with h | h; exact HE.out x h; exact HB.out x h)).chg A2.out.2.2 (fun _ _ => id))
  have Lg6 : Hid (Lies w6 (some ⟨g, 0, none⟩) E) := hide ((Og5.out.lies HE.out).chg A2.out.2.2 (fun _ _ => id))
  have HZ : Hid (Zt w6 w5.heap.size (w5.heap.size + 1) ⟨sec, line, series, secStep, step⟩ ⟨0, 0, 0, 0, 0, 0, 0⟩) := hide ⟨A2.out.1, A2.out.2.1, HX.out.2.2.2.2.1⟩
  have C06 : Hid (Chg w' w6 (fun k => k = B)) := hide (((C02.out.trans C35.out (fun _ _ => False.elim) (fun _ _ h => h)).trans A2.out.2.2 (fun _ _ h => h) (fun _ _ => False.elim)))
  clear hB5 hg5 A2 C35 Og5 O5 O4 O3 C3 C4 C5 L4 Lg3 HO2 HL2
  generalize w5.heap.size + 1 = Q at *
  generalize w5.heap.size = Z at *
  refine (f22_any w6 (some ⟨B, 0, none⟩) (E ++ l) (n + len0) (n + len0) Z Q _ _ _ _ _ (by have := HN.out; have := HLn.out; simp; omega) (by omega) L6.out HZ.out (fun R hR => by cases hR; have := HX.out; omega) (HG.out _)).mono ?_
  rintro e w7 ⟨rfl, hZ7, hC7⟩
  have Z7 := hide hZ7
  have C7 := hide hC7
  clear hZ7 hC7 HZ HG L6
  have Lg7 := hide (Lg6.out.chg C7.out (fun R hR => by cases hR; have := HX.out; omega))
  obtain ⟨g', hg', hcg⟩ := Lg7.out.2 (by have := HN.out; have := HEp.out; omega)
  cases hg'
  have cg := hcg 0 (by have := HN.out; have := HEp.out; omega)
  rw [HEh.out] at cg
  clear hcg
  have q0 : w7.cell? ⟨Q, 0, none⟩ = some (.int .i64 rS) := cell_of_block Z7.out.hQ 0
  have q1 : w7.cell? ⟨Q, 1, none⟩ = some (.int .i64 rL) := cell_of_block Z7.out.hQ 1
  have q2 : w7.cell? ⟨Q, 2, none⟩ = some (.int .i64 tS) := cell_of_block Z7.out.hQ 2
  have q3 : w7.cell? ⟨Q, 3, none⟩ = some (.int .i32 tN) := cell_of_block Z7.out.hQ 3
  have q4 : w7.cell? ⟨Q, 4, none⟩ = some (.int .i64 aS) := cell_of_block Z7.out.hQ 4
  have q5 : w7.cell? ⟨Q, 5, none⟩ = some (.int .i32 aN) := cell_of_block Z7.out.hQ 5
  have q6 : w7.cell? ⟨Q, 6, none⟩ = some (.int .u8 (fl : Int)) := cell_of_block Z7.out.hQ 6
  have z0 : w7.cell? ⟨Z, 0, none⟩ = some (.int .i64 tS) := cell_of_block Z7.out.hZ 0
  have z1 : w7.cell? ⟨Z, 1, none⟩ = some (.int .i64 rL) := cell_of_block Z7.out.hZ 1
  have z2 : w7.cell? ⟨Z, 2, none⟩ = some (.int .i64 rS) := cell_of_block Z7.out.hZ 2
  have z3 : w7.cell? ⟨Z, 3, none⟩ = some (.int .i64 nss) := cell_of_block Z7.out.hZ 3
  have z4 : w7.cell? ⟨Z, 4, none⟩ = some (.int .i64 ns) := cell_of_block Z7.out.hZ 4
  have lQ : Q < w7.heap.size := World.block_lt_of_cell? w7 _ q0
  have lZ : Z < w7.heap.size := World.block_lt_of_cell? w7 _ z0
  have lg : g < w7.heap.size := World.block_lt_of_cell? w7 _ cg
  have hpn : (0 : Int) < (n : Int) := by have := HEp.out; omega
  have hpn2 : 0 < n := by have := HEp.out; omega
  have F7 : Hid (Chg w' w7 (fun k => k = B ∨ k = Z ∨ k = Q)) := hide (C06.out.trans C7.out (fun _ _ h => .inl h) (fun _ _ h => .inr h))
  go_wp2_with fail
  go_region_held3 (fun w' => w'.cell? ⟨Q, 0, none⟩ = some (.int .i64 rS) ∧ w'.cell? ⟨Q, 1, none⟩ = some (.int .i64 rL) ∧ w'.cell? ⟨Q, 2, none⟩ = some (.int .i64 tS) ∧ w'.cell? ⟨Q, 3, none⟩ = some (.int .i32 tN) ∧ w'.cell? ⟨Q, 4, none⟩ = some (.int .i64 aS) ∧ w'.cell? ⟨Q, 5, none⟩ = some (.int .i32 aN) ∧ w'.cell? ⟨Q, 6, none⟩ = some (.int .u8 (fl : Int)) ∧ w'.cell? ⟨g, 0, none⟩ = some (.int .u8 (fl : Int))) (go_keep) ((go_at_call 23; refine (f23_same _ rS rL tS tN aS aN (fl : Int)).mono ?_; rintro e w8 ⟨rfl, o8, rfl⟩))
  rename_i hh
  clear hh
  go_wp2_with fail
  rw [← HNSS.out, ← HNS.out]
  refine (f24_same _ tS rL rS nss ns).mono ?_
  rintro e w9 ⟨rfl, o9, rfl⟩
  go_wp2
  go_ret
  exact ⟨rfl, (((F7.out.alloc o8).drew).alloc o9).below (Nat.le_refl _) (fun k hk => by have := HX.out; have := HRg.out; omega)⟩

theorem f6_all (a0 : Option Addr) (l : List Nat) (len0 cap0 : Nat) (sec line series secStep step rS rL tS tN aS aN : Int) (w : World) (hl : l.length = len0) (hm : len0 ≤ maxLen) (hb : ∀ i, i < l.length → gb l i < 256)
    (h : (a0 = none ∧ l.length = 0 ∧ cap0 = 0) ∨ ∃ x, a0 = some x ∧ ∀ i, i < l.length → w.cell? (x.add i) = some (.int .u8 (gb l i : Int)))
    (hrS : I64 rS) (hrL : I64 rL) (htS : I64 tS) (htN : I32 tN) (haS : I64 aS) (haN : I32 aN) :
    Calls Try.prog 6 #[.int .i64 sec, .int .i64 line, .int .i64 series, .int .i64 secStep, .int .i64 step, .int .i64 rS, .int .i64 rL, .int .i64 tS, .int .i32 tN, .int .i64 aS, .int .i32 aN, .slice a0 len0 cap0] w fun e w' => e = .returned (.bool true) ∧ Below w.heap.size w w' := by
  by_cases hbd : len0 ≤ 1048576
  · exact f6_any a0 l len0 cap0 sec line series secStep step rS rL tS tN aS aN w hl hm hb h hrS hrL htS htN haS haN hbd
  · have h20 := f20_any a0 len0 cap0 (.int .i64 sec) (.int .i64 line) (.int .i64 series) (.int .i64 secStep) (.int .i64 step) (.int .i64 rS) (.int .i64 rL) (.int .i64 tS) (.int .i32 tN) (.int .i64 aS) (.int .i32 aN) w hm
    rw [decide_eq_false hbd] at h20
    go_enter Try.func6, Try.ntmps6
    go_wp2_with fail
    refine h20.mono ?_
    rintro e w' ⟨rfl, rfl⟩
    go_wp2
    go_ret
    exact ⟨rfl, Below.refl _ _⟩
end Go.Proofs.Qxb6000182a
