import Derived.Test.Qxb6000095aCalls
import Derived.Test.Qxb6000095aHead
import Derived.LaidEqlPtr
namespace Go.Proofs.Qxb6000095a
open Go.RowKit
set_option linter.unusedSimpArgs false
set_option linter.unusedVariables false
attribute [local go_sem ↓] Go.wp_at_zero Go.wp_at_succ

theorem info52 : (Try.prog.info? 52).map (fun i => (i.zero, i.size, i.bytes)) = some (some (.pointer none), 1, 8) := by kernel_rfl

theorem mk51 (n : Nat) (h : n ≤ 32768) : ∃ cur : Array Value, cur.size = n ∧ ∀ w : World, (Instr.makeSlice 51 (.int .i64 (n : Int)) (.int .i64 (n : Int))).run Try.prog w =
    .ok (.slice (some ⟨w.heap.size, 0, none⟩) n n) (w.alloc (.cells cur 52)) := by
  obtain ⟨i, hi, hz0, hz1, hz2⟩ := info_parts info52
  refine ⟨madeCells #[.pointer none] (n * 1), by rw [size_madeCells]; omega, fun w => ?_⟩
  have := run_make (P := Try.prog) w 51 52 i _ Try.underlying51 hi hz0 .i64 .i64 (n : Int) (n : Int) (by omega) (by omega) (by rw [hz2]; omega) (by omega)
  rw [hz1] at this
  simpa [Value.cells] using this

theorem neq52 (w : World) (a : Addr) : (binOp .neq 52 (.pointer (some a)) (.pointer (some a))).run Try.prog w = .ok (.bool false) w := by
  obtain ⟨i, hi, _⟩ := info_parts info65
  have h : ∀ d : Nat, (Op.equalIn (d + 1) 52 (.pointer (some a)) (.pointer (some a))).run Try.prog w = .ok true w := fun d => by
    simp [Op.equalIn, run_underlying Try.underlying52, run_sameAddr_same, sizeOf, typeInfo, hi]
  simp only [binOp]
  simp [Op.equal, Op.maxDepth, h 9999]

/-- the first loop's relation -/
structure Rel5 (w0 wr : World) (base G P F T : Nat) (n k : Nat) (L Y Tt N : Nat → Int) (vm : Value) (cbs : List Nat) (cur : Array Value) : Prop where
  marks : Marks wr base G vm cbs k L Y Tt N
  hG : wr.heap[G]? = some (.cells #[.map (some F), vm, .int .i32 (k : Int), .slice none 0 0, .map (some T), .int .i64 0] 61 (0, 0))
  hP : wr.heap[P]? = some (.cells cur 52 (0, 0))
  sz : cur.size = n
  ptr : ∀ i, i < k → cur[i]? = some (.pointer (some ⟨cbs.getD (i / 4096) 0, i % 4096 * 4, none⟩))
  chg : Chg w0 wr (fun k => k = G ∨ k = P ∨ base ≤ k)
  bs : w0.heap.size = base
  GP : G ≠ P
  Gb : G < base
  Pb : P < base

theorem keep4 {w0 wr wx wa : World} {base G P F T n k R : Nat} {L Y Tt N : Nat → Int} {vm : Value} {cbs : List Nat} {cur rc : Array Value}
    (D : Rel5 w0 wr base G P F T n k L Y Tt N vm cbs cur) (hR : wr.heap[R]? = some (.cells rc 45 (0, 0))) (hRb : R < base ∧ R ≠ G) (hx : Chg wr wx (fun _ => False))
    (h : ∃ vm' cbs', Added wx wa base G (.map (some F)) vm (.slice none 0 0) (.map (some T)) (.int .i64 0) cbs k L Y Tt N vm' cbs')
    {a0 a1 a2 a3 : Value} {o0 o1 o2 o3 : Nat}
    (hc : wr.cell? ⟨R, o0, none⟩ = some a0 ∧ wr.cell? ⟨R, o1, none⟩ = some a1 ∧ wr.cell? ⟨R, o2, none⟩ = some a2 ∧ wr.cell? ⟨R, o3, none⟩ = some a3) :
    wa.cell? ⟨R, o0, none⟩ = some a0 ∧ wa.cell? ⟨R, o1, none⟩ = some a1 ∧ wa.cell? ⟨R, o2, none⟩ = some a2 ∧ wa.cell? ⟨R, o3, none⟩ = some a3 := by
  obtain ⟨vm', cbs', A⟩ := h
  have hb : wa.heap[R]? = wr.heap[R]? := by
    rw [hR]
    refine A.chg.heap (hx.heap hR id) ?_
    rintro (e | e | ⟨j, hj, e⟩)
    · exact hRb.2 e
    · have := (D.marks.row.lt _ e).1; omega
    · have := (D.marks.low j hj).1; omega
  simp only [World.cell?_of_block (w := wr) (w' := wa) (a := ⟨R, _, none⟩) hb]
  exact hc

theorem rel5_P {w0 wr wx wa : World} {base G P F T n k : Nat} {L Y Tt N : Nat → Int} {vm vm' : Value} {cbs cbs' : List Nat} {cur : Array Value}
    (D : Rel5 w0 wr base G P F T n k L Y Tt N vm cbs cur) (hx : Chg wr wx (fun _ => False))
    (A : Added wx wa base G (.map (some F)) vm (.slice none 0 0) (.map (some T)) (.int .i64 0) cbs k L Y Tt N vm' cbs') : wa.heap[P]? = some (.cells cur 52 (0, 0)) := by
  refine A.chg.heap (hx.heap D.hP id) ?_
  have := D.Pb
  rintro (e | e | ⟨j, hj, e⟩)
  · exact D.GP e.symm
  · have := (D.marks.row.lt _ e).1; omega
  · have := (D.marks.low j hj).1; omega

theorem rel5_next {w0 wr wx wa : World} {base G P F T n k : Nat} {L Y Tt N : Nat → Int} {vm vm' : Value} {cbs cbs' : List Nat} {cur : Array Value}
    (D : Rel5 w0 wr base G P F T n k L Y Tt N vm cbs cur) (hk : k < n) (hx : Chg wr wx (fun _ => False))
    (A : Added wx wa base G (.map (some F)) vm (.slice none 0 0) (.map (some T)) (.int .i64 0) cbs k L Y Tt N vm' cbs') :
    Rel5 w0 (wa.setCell ⟨P, k, none⟩ (.pointer (some ⟨cbs'.getD (k / 4096) 0, k % 4096 * 4, none⟩))) base G P F T n (k + 1) L Y Tt N vm' cbs' (cur.setIfInBounds k (.pointer (some ⟨cbs'.getD (k / 4096) 0, k % 4096 * 4, none⟩))) := by
  have hP := rel5_P D hx A
  have hPb := D.Pb
  have hGb := D.Gb
  have cnt := D.marks.cnt
  refine ⟨A.marks.chg (Chg.ofSet wa _ _ (S := fun k => k = P) rfl) ?_, ?_, set_of_block hP k _, by simpa using D.sz, ?_, ?_, D.bs, D.GP, D.Gb, D.Pb⟩
  · rintro j (e | ⟨i, hi, e⟩) rfl
    · have := (A.marks.row.lt _ e).1; omega
    · have := (A.marks.low i hi).1; omega
  · rw [Below.heap_setCell _ _ _ _ D.GP, A.hG]; simp
  · intro i hi
    have hs := D.sz
    by_cases e : i = k
    · subst e; rw [Array.getElem?_setIfInBounds_self_of_lt (by omega)]
    · rw [Array.getElem?_setIfInBounds_ne (by omega), D.ptr i (by omega), A.pre (i / 4096) (by omega)]
  · refine (D.chg.trans (hx.trans (A.chg.trans (Chg.ofSet wa _ _ (S := fun k => k = P) rfl) (S'' := fun k => k = G ∨ k = P ∨ base ≤ k) ?_ ?_) (S'' := fun k => k = G ∨ k = P ∨ base ≤ k) ?_ ?_) ?_ ?_)
    · rintro j _ (e | e | ⟨i, hi, e⟩)
      · exact .inl e
      · exact .inr (.inr (D.marks.row.lt _ e).1)
      · exact .inr (.inr (e ▸ (D.marks.low i hi).1))
    · rintro j _ e; exact .inr (.inl e)
    · rintro j _ e; exact e.elim
    · rintro j _ e; exact e
    · rintro j _ e; exact e
    · rintro j _ e; exact e

set_option maxRecDepth 100000 in
set_option maxHeartbeats 1000000 in
theorem f5_core (w : World) (a : Option Addr) (len cap : Nat) (L Y T N : Nat → Int) (h : IsRows w a len cap L Y T N) (hlen : len ≤ 32768) :
    Calls Try.prog 5 #[.slice a len cap] w fun e w' => e = .returned (.bool true) ∧ Below w.heap.size w w' := by
  have H16 := hide (fun w' h' => f16_all w' a len cap L Y T N h' hlen)
  have hd : decide (len ≤ 1048576) = true := by simp; omega
  have hd2 : decide ((32768 : Int) < (len : Int)) = false := by simp; omega
  obtain ⟨cur0, hcs0, hmk⟩ := mk51 len hlen
  go_enter Try.func5, Try.ntmps5
  go_wp2_with fail
  refine (f21_any a len cap w (by unfold maxLen; omega)).mono ?_
  rintro e w' ⟨rfl, rfl⟩
  rw [hd]
  go_wp2_with fail
  refine (H16.out _ h).mono ?_
  rintro e w1 ⟨ar, R, rfl, hrow, hR, hch1⟩
  go_wp2_with fail
  refine (f10_abs w1).mono ?_
  rintro e w2 ⟨G, F, Tm, rfl, hG, hF, hT, h1, h2, h3, h4, h5, h6, hch2⟩
  clear h H16
  go_wp2_with fail
  have r1 : Rowed (w2.alloc (.cells cur0 52)) ar R len L Y T N := (hrow.chg hch2 id).chg (Chg.ofAlloc _ _ (fun _ => False)) id
  have r2 := heap_old (.cells cur0 52) hG
  have r3 := heap_new (w := w2) (.cells cur0 52) rfl
  have r4 : Chg w' (w2.alloc (.cells cur0 52)) (fun _ => False) := (hch1.chain hch2).alloc _
  have r5 : (w2.alloc (.cells cur0 52)).heap.size = w2.heap.size + 1 := by simp
  have r6 : G < w2.heap.size := (Array.getElem?_eq_some_iff.1 hG).1
  have r7 : 0 < len → R < w1.heap.size := fun h => by obtain ⟨_, cur, h', _⟩ := hrow h; exact (Array.getElem?_eq_some_iff.1 h').1
  have r8 := hch1.size
  clear hG hF hT hch1 hch2 hrow hmk
  generalize w2.alloc (.cells cur0 52) = w3 at *
  generalize w2.heap.size = P at *
  have HW : Hid (w3.heap.size = P + 1) := r5
  clear r5
  go_loopw [6] (fun i wr => ∃ (k : Nat) (vm : Value) (cbs : List Nat) (cur : Array Value), k ≤ len ∧ i = .int .i64 k ∧ Rel5 w3 wr (P + 1) G P F Tm len k L Y T N vm cbs cur) (fun i _ => len - (intOf i).toNat)
  case atStart =>
    refine ⟨0, .slice none 0 0, [], cur0, Nat.zero_le _, rfl, ⟨rfl, World.ownsRow_nil _ _ _ _, fun k hk => absurd hk (Nat.not_lt_zero _), fun k hk => absurd hk (Nat.not_lt_zero _), fun j k _ hk => absurd hk (Nat.not_lt_zero _), by simp [Value.ownBlock]⟩, r2, r3, hcs0, fun i hi => absurd hi (Nat.not_lt_zero _), Chg.refl _ _, HW.out, by omega, by omega, by omega⟩
  case round =>
    obtain ⟨k, vm, cbs, cur, hk, rfl, D⟩ := hrel
    by_cases hlt : k < len
    · obtain ⟨rfl, rc, hR1, hR2⟩ := r1 (by omega)
      have r7' := r7 (by omega)
      have hRr : wr.heap[R]? = some (.cells rc 45 (0, 0)) := D.chg.heap hR1 (by omega)
      obtain ⟨q0, q1, q2, q3⟩ := hR2 k hlt
      have e0 : wr.cell? ⟨R, k * 4, none⟩ = some (.int .i32 (L k)) := (cell_of_block hRr _).trans q0
      have e1 : wr.cell? ⟨R, k * 4 + 1, none⟩ = some (.int .i16 (Y k)) := (cell_of_block hRr _).trans q1
      have e2 : wr.cell? ⟨R, k * 4 + 2, none⟩ = some (.int .i32 (T k)) := (cell_of_block hRr _).trans q2
      have e3 : wr.cell? ⟨R, k * 4 + 3, none⟩ = some (.int .i32 (N k)) := (cell_of_block hRr _).trans q3
      have p1 : (0 : Int) ≤ (k : Int) := by omega
      have p2 : (k : Int) < (len : Int) := by omega
      have HD := hide D
      have HR := hide hRr
      have H13 := hide (fun (wx : World) (hx : Chg wr wx (fun _ => False)) => f13_marks wx (P + 1) G k (.map (some F)) vm (.slice none 0 0) (.map (some Tm)) (.int .i64 0) cbs L Y T N (D.marks.chg hx (fun _ _ => id)) (by have := D.chg.size; have := hx.size; have := D.bs; omega) (by omega) (hx.heap D.hG id))
      clear D hRr q0 q1 q2 q3 hR1 hR2 r1 r2 r3 r4 hcs0
      go_wp2_with fail
      go_region_held3 (fun w' => w'.cell? ⟨R, k * 4, none⟩ = some (.int .i32 (L k)) ∧ w'.cell? ⟨R, k * 4 + 1, none⟩ = some (.int .i16 (Y k)) ∧ w'.cell? ⟨R, k * 4 + 2, none⟩ = some (.int .i32 (T k)) ∧ w'.cell? ⟨R, k * 4 + 3, none⟩ = some (.int .i32 (N k)))
        (first | (exact keep4 HD.out HR.out (by omega) hx hadd ⟨e0, e1, e2, e3⟩) | go_keep)
        ((go_at_call 13; have hx : Chg wr wr.drew (fun _ => False) := (Chg.refl _ _).drew; refine (H13.out _ hx).mono ?_; rintro e wa ⟨rfl, hadd⟩))
      obtain ⟨vm', cbs', A⟩ := hadd
      go_wp2_with fail
      refine (f22_marks wa (P + 1) G (k + 1) k (.map (some F)) vm' (.int .i32 ((k : Int) + 1)) (.slice none 0 0) (.map (some Tm)) (.int .i64 0) cbs' L Y T N A.marks (by omega) (by omega) A.hG).mono ?_
      rintro e wb ⟨rfl, hwb⟩
      subst hwb
      have hP : wb.heap[P]? = some (.cells cur 52 (0, 0)) := rel5_P HD.out hx A
      have hsz : cur.size = len := HD.out.sz
      obtain ⟨ov, hov⟩ : ∃ v, cur[k]? = some v := ⟨_, Array.getElem?_eq_getElem (by omega)⟩
      have z1 : wb.cell? ⟨P, k, none⟩ = some ov := (cell_of_block hP k).trans hov
      have z2 : wb.frozen? ⟨P, k, none⟩ = false := frozen_of_block hP k
      have HP := hide hP
      have HA := hide A
      clear hP hov hsz A
      go_wp2
      go_roundw
      case rel => exact ⟨k + 1, vm', cbs', _, by omega, by go_num, rel5_next HD.out hlt hx HA.out⟩
      case measure => simp [intOf]; omega
    · obtain rfl : k = len := by omega
      have hadr : 0 < k → ar = some ⟨R, 0, none⟩ := fun h => (r1 h).1
      have HD := hide D
      have HR := hide r4
      have hB : w'.heap.size ≤ G ∧ w'.heap.size ≤ P := by omega
      clear D r1 r2 r3 r4 hcs0
      go_wp2_with fail
      generalize wr = wE at *
      go_loopw [7] (fun j wr => ∃ i : Nat, i ≤ k ∧ j = .int .i64 i ∧ Chg wE wr (fun _ => False)) (fun j _ => k - (intOf j).toNat)
      case atStart => exact ⟨0, Nat.zero_le _, rfl, Chg.refl _ _⟩
      case round =>
        obtain ⟨i, hi, rfl, hwr⟩ := hrel
        by_cases hik : i < k
        · have H22 := hide (fun (wy : World) (hy : Chg wE wy (fun _ => False)) => f22_marks wy (P + 1) G k i (.map (some F)) vm (.int .i32 (k : Int)) (.slice none 0 0) (.map (some Tm)) (.int .i64 0) cbs L Y T N (HD.out.marks.chg hy (fun _ _ => id)) (by omega) hik (hy.heap HD.out.hG id))
          have hP : wr.heap[P]? = some (.cells cur 52 (0, 0)) := hwr.heap HD.out.hP id
          have z1 : wr.cell? ⟨P, i, none⟩ = some (.pointer (some ⟨cbs.getD (i / 4096) 0, i % 4096 * 4, none⟩)) := (cell_of_block hP i).trans (HD.out.ptr i hik)
          have p1 : (0 : Int) ≤ (i : Int) := by omega
          have p2 : (i : Int) < (k : Int) := by omega
          have hwi : IntKind.i32.wrap (i : Int) = (i : Int) := by rw [IntKind.wrap_i32]; omega
          have hne := neq52
          have HX := hide hwr
          clear hwr hP
          go_wp2_with fail
          go_quiet ((go_at_call 22; refine Calls.quiet_of_same (H22.out _ ?_); exact HX.out.drewN _))
          go_wp2
          go_roundw
          case rel => exact ⟨i + 1, by omega, by go_num, HX.out.drewN _⟩
          case measure => simp [intOf]; omega
        · have HX := hide hwr
          clear hwr
          go_wp2
          go_ret
          refine ⟨rfl, Chg.below (S := fun j => j = G ∨ j = P ∨ P + 1 ≤ j) ?_ (Nat.le_refl _) (fun j hj => by omega)⟩
          exact (HR.out.trans HD.out.chg (S'' := fun j => j = G ∨ j = P ∨ P + 1 ≤ j) (fun _ _ h => h.elim) (fun _ _ h => h)).trans HX.out (fun _ _ h => h) (fun _ _ h => h.elim)

/-- THE WALK -/
theorem f5_walk (w : World) (a : Option Addr) (len cap : Nat) (L Y T N : Nat → Int) (h : IsRows w a len cap L Y T N) :
    Calls Try.prog 5 #[.slice a len cap] w fun e w' => e = .returned (.bool true) ∧ Below w.heap.size w w' := by
  have hml : len ≤ maxLen := by
    rcases h with ⟨_, rfl, _⟩ | ⟨x, _, h1, h2, _⟩
    · exact Nat.zero_le _
    · omega
  by_cases h1 : len ≤ 32768
  · exact f5_core w a len cap L Y T N h h1
  · by_cases h2 : len ≤ 1048576
    · have hd : decide (len ≤ 1048576) = true := by simp; omega
      have hd2 : (32768 : Int) < (len : Int) := by omega
      go_enter Try.func5, Try.ntmps5
      go_wp2_with fail
      refine (f21_any a len cap w hml).mono ?_
      rintro e w' ⟨rfl, rfl⟩
      rw [hd]
      go_wp2
      go_ret
      exact ⟨rfl, Below.refl _ _⟩
    · have hd : decide (len ≤ 1048576) = false := by simp; omega
      go_enter Try.func5, Try.ntmps5
      go_wp2_with fail
      refine (f21_any a len cap w hml).mono ?_
      rintro e w' ⟨rfl, rfl⟩
      rw [hd]
      go_wp2
      go_ret
      exact ⟨rfl, Below.refl _ _⟩
end Go.Proofs.Qxb6000095a
