import Derived.Test.Qxb6000182aPlace
/-! ZZCodecPlace. -/
namespace Go.Proofs.Qxb6000182a
open Go.RowKit
set_option linter.unusedSimpArgs false
set_option linter.unusedVariables false
attribute [local go_sem ↓] Go.wp_at_zero Go.wp_at_succ

/-- a ZZCodec and a ZZPlaceOut in memory -/
structure Zt (w : World) (Z Q : Nat) (c : Cod) (p : Plc) : Prop where
  hZ : w.heap[Z]? = some (.cells #[.int .i64 c.sec, .int .i64 c.line, .int .i64 c.series, .int .i64 c.secStep, .int .i64 c.step] 34 (0, 0))
  hQ : w.heap[Q]? = some (.cells #[.int .i64 p.series, .int .i64 p.line, .int .i64 p.tsec, .int .i32 p.tnsec, .int .i64 p.asec, .int .i32 p.ansec, .int .u8 p.flags] 36 (0, 0))
  ne : Z ≠ Q


section
variable {w : World} {Z Q : Nat} {c : Cod} {p : Plc} (h : Zt w Z Q c p)
include h
theorem Zt.cQ (j : Nat) (u : Value) (p' : Plc) (hp : #[Value.int .i64 p.series, .int .i64 p.line, .int .i64 p.tsec, .int .i32 p.tnsec, .int .i64 p.asec, .int .i32 p.ansec, .int .u8 p.flags].setIfInBounds j u = #[.int .i64 p'.series, .int .i64 p'.line, .int .i64 p'.tsec, .int .i32 p'.tnsec, .int .i64 p'.asec, .int .i32 p'.ansec, .int .u8 p'.flags]) :
    Zt (w.setCell ⟨Q, j, none⟩ u) Z Q c p' :=
  ⟨by rw [Below.heap_setCell _ _ _ _ h.ne]; exact h.hZ, by rw [set_of_block h.hQ, hp], h.ne⟩
theorem Zt.cZ (j : Nat) (u : Value) (c' : Cod) (hp : #[Value.int .i64 c.sec, .int .i64 c.line, .int .i64 c.series, .int .i64 c.secStep, .int .i64 c.step].setIfInBounds j u = #[.int .i64 c'.sec, .int .i64 c'.line, .int .i64 c'.series, .int .i64 c'.secStep, .int .i64 c'.step]) :
    Zt (w.setCell ⟨Z, j, none⟩ u) Z Q c' p :=
  ⟨by rw [set_of_block h.hZ, hp], by rw [Below.heap_setCell _ _ _ _ h.ne.symm]; exact h.hQ, h.ne⟩
theorem Zt.z0 (v : Int) : Zt (w.setCell ⟨Z, 0, none⟩ (.int .i64 v)) Z Q { c with sec := v } p := h.cZ 0 _ _ rfl
theorem Zt.z1 (v : Int) : Zt (w.setCell ⟨Z, 1, none⟩ (.int .i64 v)) Z Q { c with line := v } p := h.cZ 1 _ _ rfl
theorem Zt.z2 (v : Int) : Zt (w.setCell ⟨Z, 2, none⟩ (.int .i64 v)) Z Q { c with series := v } p := h.cZ 2 _ _ rfl
theorem Zt.z3 (v : Int) : Zt (w.setCell ⟨Z, 3, none⟩ (.int .i64 v)) Z Q { c with secStep := v } p := h.cZ 3 _ _ rfl
theorem Zt.z4 (v : Int) : Zt (w.setCell ⟨Z, 4, none⟩ (.int .i64 v)) Z Q { c with step := v } p := h.cZ 4 _ _ rfl
theorem Zt.q0 (v : Int) : Zt (w.setCell ⟨Q, 0, none⟩ (.int .i64 v)) Z Q c { p with series := v } := h.cQ 0 _ _ rfl
theorem Zt.q1 (v : Int) : Zt (w.setCell ⟨Q, 1, none⟩ (.int .i64 v)) Z Q c { p with line := v } := h.cQ 1 _ _ rfl
theorem Zt.q2 (v : Int) : Zt (w.setCell ⟨Q, 2, none⟩ (.int .i64 v)) Z Q c { p with tsec := v } := h.cQ 2 _ _ rfl
theorem Zt.q3 (v : Int) : Zt (w.setCell ⟨Q, 3, none⟩ (.int .i32 v)) Z Q c { p with tnsec := v } := h.cQ 3 _ _ rfl
theorem Zt.q4 (v : Int) : Zt (w.setCell ⟨Q, 4, none⟩ (.int .i64 v)) Z Q c { p with asec := v } := h.cQ 4 _ _ rfl
theorem Zt.q5 (v : Int) : Zt (w.setCell ⟨Q, 5, none⟩ (.int .i32 v)) Z Q c { p with ansec := v } := h.cQ 5 _ _ rfl
theorem Zt.q6 (v : Int) : Zt (w.setCell ⟨Q, 6, none⟩ (.int .u8 v)) Z Q c { p with flags := v } := h.cQ 6 _ _ rfl
theorem Zt.chg {w' : World} {S : Nat → Prop} (hc : Chg w w' S) (hZ : ¬ S Z) (hQ : ¬ S Q) : Zt w' Z Q c p := ⟨hc.heap h.hZ hZ, hc.heap h.hQ hQ, h.ne⟩
end

set_option maxRecDepth 100000 in
set_option maxHeartbeats 4000000 in
theorem f22_any (w : World) (a : Option Addr) (l : List Nat) (n cap Z Q : Nat) (c c' : Cod) (p p' : Plc) (r : Int) (hln : l.length = n) (hlen : n ≤ 1073741824) (h : Lies w a l) (hZ : Zt w Z Q c p) (hn : ∀ R, a = some ⟨R, 0, none⟩ → R ≠ Z ∧ R ≠ Q ∧ R < w.heap.size) (hG : Got l c p r c' p') :
    Calls Try.prog 22 #[.pointer (some ⟨Z, 0, none⟩), .slice a n cap, .pointer (some ⟨Q, 0, none⟩)] w fun e w' => e = .returned (.int .i64 r) ∧ Zt w' Z Q c' p' ∧ Chg w w' (fun k => k = Z ∨ k = Q) := by
  have H41 := hide (fun (w' : World) (C P : Nat) (hL : Lies w' a l) (hS : St w' w' C P c p) (hn : ∀ R, a = some ⟨R, 0, none⟩ → R ≠ C ∧ R ≠ P) => f41_got w' a l cap C P c c' p p' r (by omega) hL hS hn hG)
  rw [hln] at H41
  have HZ := hide hZ
  have HL := hide h
  have HN := hide hn
  have k0 : w.cell? ⟨Z, 0, none⟩ = some (.int .i64 c.sec) := cell_of_block hZ.hZ 0
  have k1 : w.cell? ⟨Z, 1, none⟩ = some (.int .i64 c.line) := cell_of_block hZ.hZ 1
  have k2 : w.cell? ⟨Z, 2, none⟩ = some (.int .i64 c.series) := cell_of_block hZ.hZ 2
  have k3 : w.cell? ⟨Z, 3, none⟩ = some (.int .i64 c.secStep) := cell_of_block hZ.hZ 3
  have k4 : w.cell? ⟨Z, 4, none⟩ = some (.int .i64 c.step) := cell_of_block hZ.hZ 4
  have lZ : Z < w.heap.size := World.block_lt_of_cell? w _ k0
  clear hZ h hn hG hln
  go_enter Try.func22, Try.ntmps22
  go_wp2_with fail
  go_region_held3 (fun w' => w'.cell? ⟨Z, 0, none⟩ = some (.int .i64 c.sec) ∧ w'.cell? ⟨Z, 1, none⟩ = some (.int .i64 c.line) ∧ w'.cell? ⟨Z, 2, none⟩ = some (.int .i64 c.series) ∧ w'.cell? ⟨Z, 3, none⟩ = some (.int .i64 c.secStep) ∧ w'.cell? ⟨Z, 4, none⟩ = some (.int .i64 c.step)) (go_keep) (fail)
  rename_i hh
  clear hh
  have e1 := hide (Chg.ofAlloc w (.cells #[.int .i64 c.sec, .int .i64 c.line, .int .i64 c.series, .int .i64 c.secStep, .int .i64 c.step] 65) (fun _ => False)).drew
  have e2 : Hid _ := hide (heap_new (w := w) (.cells #[.int .i64 c.sec, .int .i64 c.line, .int .i64 c.series, .int .i64 c.secStep, .int .i64 c.step] 65) rfl)
  have e3 : (w.alloc (.cells #[.int .i64 c.sec, .int .i64 c.line, .int .i64 c.series, .int .i64 c.secStep, .int .i64 c.step] 65)).drew.heap.size = w.heap.size + 1 := by simp [World.drew]
  change Hid ((w.alloc (.cells #[.int .i64 c.sec, .int .i64 c.line, .int .i64 c.series, .int .i64 c.secStep, .int .i64 c.step] 65)).drew.heap[w.heap.size]? = _) at e2
  generalize (w.alloc (.cells #[.int .i64 c.sec, .int .i64 c.line, .int .i64 c.series, .int .i64 c.secStep, .int .i64 c.step] 65)).drew = w1 at e1 e2 e3 ⊢
  clear k0 k1 k2 k3 k4
  have Z1 := hide (HZ.out.chg e1.out id id)
  have k0 : w1.cell? ⟨Q, 0, none⟩ = some (.int .i64 p.series) := cell_of_block Z1.out.hQ 0
  have k1 : w1.cell? ⟨Q, 1, none⟩ = some (.int .i64 p.line) := cell_of_block Z1.out.hQ 1
  have k2 : w1.cell? ⟨Q, 2, none⟩ = some (.int .i64 p.tsec) := cell_of_block Z1.out.hQ 2
  have k3 : w1.cell? ⟨Q, 3, none⟩ = some (.int .i32 p.tnsec) := cell_of_block Z1.out.hQ 3
  have k4 : w1.cell? ⟨Q, 4, none⟩ = some (.int .i64 p.asec) := cell_of_block Z1.out.hQ 4
  have k5 : w1.cell? ⟨Q, 5, none⟩ = some (.int .i32 p.ansec) := cell_of_block Z1.out.hQ 5
  have k6 : w1.cell? ⟨Q, 6, none⟩ = some (.int .u8 p.flags) := cell_of_block Z1.out.hQ 6
  have lQ : Q < w.heap.size := (Array.getElem?_eq_some_iff.1 HZ.out.hQ).1
  have lQ1 : Q < w1.heap.size := by omega
  have E3 := hide e3
  clear e3
  go_wp2_with fail
  go_region_held3 (fun w' => w'.cell? ⟨Q, 0, none⟩ = some (.int .i64 p.series) ∧ w'.cell? ⟨Q, 1, none⟩ = some (.int .i64 p.line) ∧ w'.cell? ⟨Q, 2, none⟩ = some (.int .i64 p.tsec) ∧ w'.cell? ⟨Q, 3, none⟩ = some (.int .i32 p.tnsec) ∧ w'.cell? ⟨Q, 4, none⟩ = some (.int .i64 p.asec) ∧ w'.cell? ⟨Q, 5, none⟩ = some (.int .i32 p.ansec) ∧ w'.cell? ⟨Q, 6, none⟩ = some (.int .u8 p.flags)) (go_keep) (fail)
  rename_i hh
  clear hh
  have e4 := hide (Chg.ofAlloc w1 (.cells #[.int .i64 p.series, .int .i64 p.line, .int .i64 p.tsec, .int .i32 p.tnsec, .int .i64 p.asec, .int .i32 p.ansec, .int .u8 p.flags] 69) (fun _ => False)).drew
  have e5 : Hid _ := hide (heap_new (w := w1) (.cells #[.int .i64 p.series, .int .i64 p.line, .int .i64 p.tsec, .int .i32 p.tnsec, .int .i64 p.asec, .int .i32 p.ansec, .int .u8 p.flags] 69) rfl)
  change Hid ((w1.alloc (.cells #[.int .i64 p.series, .int .i64 p.line, .int .i64 p.tsec, .int .i32 p.tnsec, .int .i64 p.asec, .int .i32 p.ansec, .int .u8 p.flags] 69)).drew.heap[w1.heap.size]? = _) at e5
  generalize (w1.alloc (.cells #[.int .i64 p.series, .int .i64 p.line, .int .i64 p.tsec, .int .i32 p.tnsec, .int .i64 p.asec, .int .i32 p.ansec, .int .u8 p.flags] 69)).drew = w2 at e4 e5 ⊢
  have S2 : Hid (St w2 w2 w.heap.size w1.heap.size c p) := hide ⟨e4.out.heap e2.out id, e5.out, by have := E3.out; omega, Chg.refl _ _⟩
  have Z2 := hide (Z1.out.chg e4.out id id)
  have L2 : Hid (Lies w2 a l) := hide ((HL.out.chg e1.out (fun _ _ => id)).chg e4.out (fun _ _ => id))
  have N2 : Hid (∀ R, a = some ⟨R, 0, none⟩ → R ≠ w.heap.size ∧ R ≠ w1.heap.size) := hide (fun R hR => by have := HN.out R hR; have := E3.out; omega)
  have hZC : Z ≠ w.heap.size := by omega
  have hQC : Q ≠ w.heap.size := by omega
  have hZP : Z ≠ w1.heap.size := by have := E3.out; omega
  have hQP : Q ≠ w1.heap.size := by have := E3.out; omega
  have C2 : Hid (Chg w w2 (fun _ => False)) := hide (e1.out.chain e4.out)
  have HCP : Hid (w.heap.size ≤ w1.heap.size) := hide (by have := E3.out; omega)
  have HSZ : Hid (w.heap.size ≤ w.heap.size) := hide (Nat.le_refl _)
  clear k0 k1 k2 k3 k4 k5 k6 e2 e5 lQ lQ1 lZ
  clear E3
  generalize w1.heap.size = P at *
  have HCC : Hid (∀ k, k < w.heap.size → k ≠ w.heap.size) := hide (fun k hk => by omega)
  generalize hcd : w.heap.size = C at S2 N2 hZC hQC HCP HCC ⊢
  have HD := hide hcd
  clear hcd
  go_wp2_with fail
  refine (H41.out w2 C P L2.out S2.out N2.out).mono ?_
  rintro e w3 ⟨rfl, hS3⟩
  have S3 := hide hS3
  have Z3 := hide (Z2.out.chg hS3.chg (by omega) (by omega))
  have hCP := hS3.ne
  clear hS3
  have hCP' := hCP.symm
  have hZC' := hZC.symm
  have hQC' := hQC.symm
  have hZP' := hZP.symm
  have hQP' := hQP.symm
  have hZQ := HZ.out.ne
  have hZQ' := hZQ.symm
  have c0 : w3.cell? ⟨C, 0, none⟩ = some (.int .i64 c'.sec) := cell_of_block S3.out.hC 0
  have z0 : w3.cell? ⟨Z, 0, none⟩ = some (.int .i64 c.sec) := cell_of_block Z3.out.hZ 0
  have y0 : w3.frozen? ⟨Z, 0, none⟩ = false := frozen_of_block Z3.out.hZ 0
  have c1 : w3.cell? ⟨C, 1, none⟩ = some (.int .i64 c'.line) := cell_of_block S3.out.hC 1
  have z1 : w3.cell? ⟨Z, 1, none⟩ = some (.int .i64 c.line) := cell_of_block Z3.out.hZ 1
  have y1 : w3.frozen? ⟨Z, 1, none⟩ = false := frozen_of_block Z3.out.hZ 1
  have c2 : w3.cell? ⟨C, 2, none⟩ = some (.int .i64 c'.series) := cell_of_block S3.out.hC 2
  have z2 : w3.cell? ⟨Z, 2, none⟩ = some (.int .i64 c.series) := cell_of_block Z3.out.hZ 2
  have y2 : w3.frozen? ⟨Z, 2, none⟩ = false := frozen_of_block Z3.out.hZ 2
  have c3 : w3.cell? ⟨C, 3, none⟩ = some (.int .i64 c'.secStep) := cell_of_block S3.out.hC 3
  have z3 : w3.cell? ⟨Z, 3, none⟩ = some (.int .i64 c.secStep) := cell_of_block Z3.out.hZ 3
  have y3 : w3.frozen? ⟨Z, 3, none⟩ = false := frozen_of_block Z3.out.hZ 3
  have c4 : w3.cell? ⟨C, 4, none⟩ = some (.int .i64 c'.step) := cell_of_block S3.out.hC 4
  have z4 : w3.cell? ⟨Z, 4, none⟩ = some (.int .i64 c.step) := cell_of_block Z3.out.hZ 4
  have y4 : w3.frozen? ⟨Z, 4, none⟩ = false := frozen_of_block Z3.out.hZ 4
  have p0 : w3.cell? ⟨P, 0, none⟩ = some (.int .i64 p'.series) := cell_of_block S3.out.hP 0
  have q0 : w3.cell? ⟨Q, 0, none⟩ = some (.int .i64 p.series) := cell_of_block Z3.out.hQ 0
  have x0 : w3.frozen? ⟨Q, 0, none⟩ = false := frozen_of_block Z3.out.hQ 0
  have p1 : w3.cell? ⟨P, 1, none⟩ = some (.int .i64 p'.line) := cell_of_block S3.out.hP 1
  have q1 : w3.cell? ⟨Q, 1, none⟩ = some (.int .i64 p.line) := cell_of_block Z3.out.hQ 1
  have x1 : w3.frozen? ⟨Q, 1, none⟩ = false := frozen_of_block Z3.out.hQ 1
  have p2 : w3.cell? ⟨P, 2, none⟩ = some (.int .i64 p'.tsec) := cell_of_block S3.out.hP 2
  have q2 : w3.cell? ⟨Q, 2, none⟩ = some (.int .i64 p.tsec) := cell_of_block Z3.out.hQ 2
  have x2 : w3.frozen? ⟨Q, 2, none⟩ = false := frozen_of_block Z3.out.hQ 2
  have p3 : w3.cell? ⟨P, 3, none⟩ = some (.int .i32 p'.tnsec) := cell_of_block S3.out.hP 3
  have q3 : w3.cell? ⟨Q, 3, none⟩ = some (.int .i32 p.tnsec) := cell_of_block Z3.out.hQ 3
  have x3 : w3.frozen? ⟨Q, 3, none⟩ = false := frozen_of_block Z3.out.hQ 3
  have p4 : w3.cell? ⟨P, 4, none⟩ = some (.int .i64 p'.asec) := cell_of_block S3.out.hP 4
  have q4 : w3.cell? ⟨Q, 4, none⟩ = some (.int .i64 p.asec) := cell_of_block Z3.out.hQ 4
  have x4 : w3.frozen? ⟨Q, 4, none⟩ = false := frozen_of_block Z3.out.hQ 4
  have p5 : w3.cell? ⟨P, 5, none⟩ = some (.int .i32 p'.ansec) := cell_of_block S3.out.hP 5
  have q5 : w3.cell? ⟨Q, 5, none⟩ = some (.int .i32 p.ansec) := cell_of_block Z3.out.hQ 5
  have x5 : w3.frozen? ⟨Q, 5, none⟩ = false := frozen_of_block Z3.out.hQ 5
  have p6 : w3.cell? ⟨P, 6, none⟩ = some (.int .u8 p'.flags) := cell_of_block S3.out.hP 6
  have q6 : w3.cell? ⟨Q, 6, none⟩ = some (.int .u8 p.flags) := cell_of_block Z3.out.hQ 6
  have x6 : w3.frozen? ⟨Q, 6, none⟩ = false := frozen_of_block Z3.out.hQ 6
  go_wp2
  go_ret
  have hch : Chg w w3 (fun k => k = Z ∨ k = Q) := C2.out.trans S3.out.chg (fun _ _ => False.elim) (fun k hk h => absurd h (by have := HD.out; have := HCP.out; omega))
  exact ⟨rfl, ((((((((((((Z3.out.z0 _).z1 _).z2 _).z3 _).z4 _).q0 _).q1 _).q2 _).q3 _).q4 _).q5 _).q6 _), ((((((((((((hch.setCell ⟨Z, 0, none⟩ _ (.inl rfl)).setCell ⟨Z, 1, none⟩ _ (.inl rfl)).setCell ⟨Z, 2, none⟩ _ (.inl rfl)).setCell ⟨Z, 3, none⟩ _ (.inl rfl)).setCell ⟨Z, 4, none⟩ _ (.inl rfl)).setCell ⟨Q, 0, none⟩ _ (.inr rfl)).setCell ⟨Q, 1, none⟩ _ (.inr rfl)).setCell ⟨Q, 2, none⟩ _ (.inr rfl)).setCell ⟨Q, 3, none⟩ _ (.inr rfl)).setCell ⟨Q, 4, none⟩ _ (.inr rfl)).setCell ⟨Q, 5, none⟩ _ (.inr rfl)).setCell ⟨Q, 6, none⟩ _ (.inr rfl))⟩
end Go.Proofs.Qxb6000182a
