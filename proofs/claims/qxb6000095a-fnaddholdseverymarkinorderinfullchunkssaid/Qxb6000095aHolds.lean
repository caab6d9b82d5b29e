import Derived.Test.Qxb6000095aCalls2
import Derived.Test.Qxb6000095aHead
namespace Go.Proofs.Qxb6000095a
open Go.RowKit
set_option linter.unusedSimpArgs false
set_option linter.unusedVariables false
attribute [local go_sem ↓] Go.wp_at_zero Go.wp_at_succ

/-- the first loop's relation -/
structure Rel4 (w0 wr : World) (base G F T : Nat) (k : Nat) (L Y Tt N : Nat → Int) (vm : Value) (cbs : List Nat) : Prop where
  marks : Marks wr base G vm cbs k L Y Tt N
  hG : wr.heap[G]? = some (.cells #[.map (some F), vm, .int .i32 (k : Int), .slice none 0 0, .map (some T), .int .i64 0] 61 (0, 0))
  chg : Chg w0 wr (fun k => k = G ∨ base ≤ k)
  bs : w0.heap.size = base
  Gb : G < base

theorem keep4r {w0 wr wx wa : World} {base G F T k R : Nat} {L Y Tt N : Nat → Int} {vm : Value} {cbs : List Nat} {rc : Array Value}
    (D : Rel4 w0 wr base G F T k L Y Tt N vm cbs) (hR : wr.heap[R]? = some (.cells rc 45 (0, 0))) (hRb : R < base ∧ R ≠ G) (hx : Chg wr wx (fun _ => False))
    (h : ∃ vm' cbs', Added wx wa base G (.map (some F)) vm (.slice none 0 0) (.map (some T)) (.int .i64 0) cbs k L Y Tt N vm' cbs')
    {a0 a1 a2 a3 : Value} {o0 o1 o2 o3 : Nat}
    (hc : wr.cell? ⟨R, o0, none⟩ = some a0 ∧ wr.cell? ⟨R, o1, none⟩ = some a1 ∧ wr.cell? ⟨R, o2, none⟩ = some a2 ∧ wr.cell? ⟨R, o3, none⟩ = some a3) :
    wa.cell? ⟨R, o0, none⟩ = some a0 ∧ wa.cell? ⟨R, o1, none⟩ = some a1 ∧ wa.cell? ⟨R, o2, none⟩ = some a2 ∧ wa.cell? ⟨R, o3, none⟩ = some a3 := by
  obtain ⟨vm', cbs', A⟩ := h
  have hb : wa.heap[R]? = wr.heap[R]? := by
    rw [hR]
    refine A.chg.heap (hx.heap hR id) ?_
    rintro (e | e | ⟨j, hj, e⟩)
    · exact hRb.2 e
    · have := (D.marks.row.lt _ e).1; omega
    · have := (D.marks.low j hj).1; omega
  simp only [World.cell?_of_block (w := wr) (w' := wa) (a := ⟨R, _, none⟩) hb]
  exact hc

theorem rel4_next {w0 wr wx wa : World} {base G F T k : Nat} {L Y Tt N : Nat → Int} {vm vm' : Value} {cbs cbs' : List Nat}
    (D : Rel4 w0 wr base G F T k L Y Tt N vm cbs) (hx : Chg wr wx (fun _ => False))
    (A : Added wx wa base G (.map (some F)) vm (.slice none 0 0) (.map (some T)) (.int .i64 0) cbs k L Y Tt N vm' cbs') :
    Rel4 w0 wa base G F T (k + 1) L Y Tt N vm' cbs' := by
  refine ⟨A.marks, by rw [A.hG]; simp, ?_, D.bs, D.Gb⟩
  refine (D.chg.trans (hx.trans A.chg (S'' := fun k => k = G ∨ base ≤ k) ?_ ?_) ?_ ?_)
  · rintro j _ e; exact e.elim
  · rintro j _ (e | e | ⟨i, hi, e⟩)
    · exact .inl e
    · exact .inr (D.marks.row.lt _ e).1
    · exact .inr (e ▸ (D.marks.low i hi).1)
  · rintro j _ e; exact e
  · rintro j _ e; exact e

set_option maxRecDepth 100000 in
set_option maxHeartbeats 2000000 in
theorem f4_core (w : World) (a : Option Addr) (len cap : Nat) (L Y T N : Nat → Int) (h : IsRows w a len cap L Y T N) (hlen : len ≤ 32768) :
    Calls Try.prog 4 #[.slice a len cap] w fun e w' => e = .returned (.bool true) ∧ Below w.heap.size w w' := by
  have H16 := hide (fun w' h' => f16_all w' a len cap L Y T N h' hlen)
  have hd : decide (len ≤ 1048576) = true := by simp; omega
  have hd2 : decide ((32768 : Int) < (len : Int)) = false := by simp; omega
  go_enter Try.func4, Try.ntmps4
  go_wp2_with fail
  refine (f15_any a len cap w (by unfold maxLen; omega)).mono ?_
  rintro e w' ⟨rfl, rfl⟩
  rw [hd]
  go_wp2_with fail
  refine (H16.out _ h).mono ?_
  rintro e w1 ⟨ar, R, rfl, hrow, hR, hch1⟩
  go_wp2_with fail
  refine (f10_abs w1).mono ?_
  rintro e w3 ⟨G, F, Tm, rfl, hG, hF, hT, h1, h2, h3, h4, h5, h6, hch2⟩
  clear h H16
  go_wp2_with fail
  have r1 : Rowed w3 ar R len L Y T N := hrow.chg hch2 id
  have r4 : Chg w' w3 (fun _ => False) := hch1.chain hch2
  have r6 : G < w3.heap.size := (Array.getElem?_eq_some_iff.1 hG).1
  have r7 : 0 < len → R < w1.heap.size := fun h => by obtain ⟨_, cur, h', _⟩ := hrow h; exact (Array.getElem?_eq_some_iff.1 h').1
  have r8 := hch1.size
  clear hF hT hch1 hch2 hrow
  go_loopw [5] (fun i wr => ∃ (k : Nat) (vm : Value) (cbs : List Nat), k ≤ len ∧ i = .int .i64 k ∧ Rel4 w3 wr w3.heap.size G F Tm k L Y T N vm cbs) (fun i _ => len - (intOf i).toNat)
  case atStart =>
    exact ⟨0, .slice none 0 0, [], Nat.zero_le _, rfl, ⟨rfl, World.ownsRow_nil _ _ _ _, fun k hk => absurd hk (Nat.not_lt_zero _), fun k hk => absurd hk (Nat.not_lt_zero _), fun j k _ hk => absurd hk (Nat.not_lt_zero _), by simp [Value.ownBlock]⟩, hG, Chg.refl _ _, rfl, r6⟩
  case round =>
    obtain ⟨k, vm, cbs, hk, rfl, D⟩ := hrel
    by_cases hlt : k < len
    · obtain ⟨rfl, rc, hR1, hR2⟩ := r1 (by omega)
      have r7' := r7 (by omega)
      have hRr : wr.heap[R]? = some (.cells rc 45 (0, 0)) := D.chg.heap hR1 (by omega)
      obtain ⟨q0, q1, q2, q3⟩ := hR2 k hlt
      have e0 : wr.cell? ⟨R, k * 4, none⟩ = some (.int .i32 (L k)) := (cell_of_block hRr _).trans q0
      have e1 : wr.cell? ⟨R, k * 4 + 1, none⟩ = some (.int .i16 (Y k)) := (cell_of_block hRr _).trans q1
      have e2 : wr.cell? ⟨R, k * 4 + 2, none⟩ = some (.int .i32 (T k)) := (cell_of_block hRr _).trans q2
      have e3 : wr.cell? ⟨R, k * 4 + 3, none⟩ = some (.int .i32 (N k)) := (cell_of_block hRr _).trans q3
      have p1 : (0 : Int) ≤ (k : Int) := by omega
      have p2 : (k : Int) < (len : Int) := by omega
      have HD := hide D
      have HR := hide hRr
      have H13 := hide (fun (wx : World) (hx : Chg wr wx (fun _ => False)) => f13_marks wx w3.heap.size G k (.map (some F)) vm (.slice none 0 0) (.map (some Tm)) (.int .i64 0) cbs L Y T N (D.marks.chg hx (fun _ _ => id)) (by have := D.chg.size; have := hx.size; omega) (by omega) (hx.heap D.hG id))
      clear D hRr q0 q1 q2 q3 hR1 hR2 r1 r4 hG
      go_wp2_with fail
      go_region_held3 (fun w' => w'.cell? ⟨R, k * 4, none⟩ = some (.int .i32 (L k)) ∧ w'.cell? ⟨R, k * 4 + 1, none⟩ = some (.int .i16 (Y k)) ∧ w'.cell? ⟨R, k * 4 + 2, none⟩ = some (.int .i32 (T k)) ∧ w'.cell? ⟨R, k * 4 + 3, none⟩ = some (.int .i32 (N k)))
        (first | (exact keep4r HD.out HR.out (by omega) hx hadd ⟨e0, e1, e2, e3⟩) | go_keep)
        ((go_at_call 13; have hx : Chg wr wr.drew (fun _ => False) := (Chg.refl _ _).drew; refine (H13.out _ hx).mono ?_; rintro e wa ⟨rfl, hadd⟩))
      obtain ⟨vm', cbs', A⟩ := hadd
      have HA := hide A
      clear A
      go_wp2_with fail
      refine (f17_any wa G (.map (some F)) vm' (.int .i32 ((k : Int) + 1)) (.slice none 0 0) (.map (some Tm)) (.int .i64 0) HA.out.hG).mono ?_
      rintro e wb ⟨rfl, hwb⟩
      subst hwb
      go_wp2
      go_roundw
      case rel => exact ⟨k + 1, vm', cbs', by omega, by go_num, rel4_next HD.out hx HA.out⟩
      case measure => simp [intOf]; omega
    · obtain rfl : k = len := by omega
      have HD := hide D
      have HR := hide r4
      have hB : w'.heap.size ≤ G ∧ w'.heap.size ≤ w3.heap.size := by omega
      clear D r4 hG
      go_wp2_with fail
      generalize wr = wE at *
      go_loopw [6] (fun j wr => ∃ i : Nat, i ≤ k ∧ j = .int .i64 i ∧ Chg wE wr (fun _ => False)) (fun j _ => k - (intOf j).toNat)
      case atStart => exact ⟨0, Nat.zero_le _, rfl, Chg.refl _ _⟩
      case round =>
        obtain ⟨i, hi, rfl, hwr⟩ := hrel
        by_cases hik : i < k
        · obtain ⟨rfl, rc, hR1, hR2⟩ := r1 (by omega)
          have r7' := r7 (by omega)
          have hRr : wr.heap[R]? = some (.cells rc 45 (0, 0)) := hwr.heap (HD.out.chg.heap hR1 (by omega)) id
          obtain ⟨q0, q1, q2, q3⟩ := hR2 i hik
          have e0 : wr.cell? ⟨R, i * 4, none⟩ = some (.int .i32 (L i)) := (cell_of_block hRr _).trans q0
          have e1 : wr.cell? ⟨R, i * 4 + 1, none⟩ = some (.int .i16 (Y i)) := (cell_of_block hRr _).trans q1
          have e2 : wr.cell? ⟨R, i * 4 + 2, none⟩ = some (.int .i32 (T i)) := (cell_of_block hRr _).trans q2
          have e3 : wr.cell? ⟨R, i * 4 + 3, none⟩ = some (.int .i32 (N i)) := (cell_of_block hRr _).trans q3
          have H18 := hide (f18_any wr w3.heap.size G k i (.map (some F)) vm (.int .i32 (k : Int)) (.slice none 0 0) (.map (some Tm)) (.int .i64 0) cbs L Y T N (HD.out.marks.chg hwr (fun _ _ => id)) (by omega) hik (hwr.heap HD.out.hG id))
          have p1 : (0 : Int) ≤ (i : Int) := by omega
          have p2 : (i : Int) < (k : Int) := by omega
          have HX := hide hwr
          clear hwr hRr q0 q1 q2 q3 hR1 hR2 r1
          go_wp2_with fail
          refine H18.out.mono ?_
          rintro e wb ⟨rfl, m, hwb⟩
          subst hwb
          go_wp2
          go_roundw
          case rel => exact ⟨i + 1, by omega, by go_num, HX.out.drewN _⟩
          case measure => simp [intOf]; omega
        · have HX := hide hwr
          have hC : ((k : Int) + 4096 - 1) / 4096 = (cbs.length : Int) := by have := HD.out.marks.cnt; omega
          have HC := hide hC
          clear hwr hC r1
          go_wp2_with fail
          rw [HC.out]
          refine (f19_any wr w3.heap.size G k (.map (some F)) vm (.int .i32 (k : Int)) (.slice none 0 0) (.map (some Tm)) (.int .i64 0) cbs L Y T N (HD.out.marks.chg HX.out (fun _ _ => id)) (HX.out.heap HD.out.hG id)).mono ?_
          rintro e wb ⟨rfl, hwb⟩
          subst hwb
          have hcb : cbs.length ≤ 8 := by have := HD.out.marks.cnt; omega
          go_wp2_with fail
          generalize wb = wF at *
          go_loopw [12, 13] (fun j _ wr => ∃ q : Nat, q ≤ cbs.length ∧ j = .int .i64 q ∧ wr = wF) (fun j _ _ => cbs.length - (intOf j).toNat)
          case atStart => exact ⟨0, Nat.zero_le _, rfl, rfl⟩
          case round =>
            obtain ⟨q, hq, rfl, rfl⟩ := hrel
            by_cases hqk : q < cbs.length
            · have H20 := hide (f20_any wr w3.heap.size G k q (.map (some F)) vm (.int .i32 (k : Int)) (.slice none 0 0) (.map (some Tm)) (.int .i64 0) cbs L Y T N (HD.out.marks.chg HX.out (fun _ _ => id)) hqk (HX.out.heap HD.out.hG id))
              by_cases hw : 4096 < k - 4096 * q
              · have hw1 : (4096 : Int) < (k : Int) - (q : Int) * 4096 := by omega
                have hcl : cl k q = 4096 := by unfold cl; omega
                rw [hcl] at H20
                clear hcl
                go_wp2_with fail
                refine H20.out.mono ?_
                rintro e wb ⟨rfl, hwb⟩
                subst hwb
                go_wp2
                go_roundw
                case rel => exact ⟨q + 1, by omega, by go_num, trivial⟩
                case measure => simp [intOf]; omega
              · have hw1 : ¬ (4096 : Int) < (k : Int) - (q : Int) * 4096 := by have := HD.out.marks.cnt; omega
                have hcl : ((cl k q : Nat) : Int) = (k : Int) - (q : Int) * 4096 := by have := HD.out.marks.cnt; unfold cl; omega
                rw [hcl] at H20
                clear hcl
                go_wp2_with fail
                refine H20.out.mono ?_
                rintro e wb ⟨rfl, hwb⟩
                subst hwb
                go_wp2
                go_roundw
                case rel => exact ⟨q + 1, by omega, by go_num, trivial⟩
                case measure => simp [intOf]; omega
            · go_wp2_with fail
              refine (f17_any wr G (.map (some F)) vm (.int .i32 (k : Int)) (.slice none 0 0) (.map (some Tm)) (.int .i64 0) (HX.out.heap HD.out.hG id)).mono ?_
              rintro e wb ⟨rfl, hwb⟩
              subst hwb
              go_wp2
              go_ret
              refine ⟨rfl, Chg.below (S := fun j => j = G ∨ w3.heap.size ≤ j) ?_ (Nat.le_refl _) (fun j hj => by omega)⟩
              exact (HR.out.trans HD.out.chg (S'' := fun j => j = G ∨ w3.heap.size ≤ j) (fun _ _ h => h.elim) (fun _ _ h => h)).trans HX.out (fun _ _ h => h) (fun _ _ h => h.elim)

/-- THE WALK -/
theorem f4_walk (w : World) (a : Option Addr) (len cap : Nat) (L Y T N : Nat → Int) (h : IsRows w a len cap L Y T N) :
    Calls Try.prog 4 #[.slice a len cap] w fun e w' => e = .returned (.bool true) ∧ Below w.heap.size w w' := by
  have hml : len ≤ maxLen := by
    rcases h with ⟨_, rfl, _⟩ | ⟨x, _, h1, h2, _⟩
    · exact Nat.zero_le _
    · omega
  by_cases h1 : len ≤ 32768
  · exact f4_core w a len cap L Y T N h h1
  · by_cases h2 : len ≤ 1048576
    · have hd : decide (len ≤ 1048576) = true := by simp; omega
      have hd2 : (32768 : Int) < (len : Int) := by omega
      go_enter Try.func4, Try.ntmps4
      go_wp2_with fail
      refine (f15_any a len cap w hml).mono ?_
      rintro e w' ⟨rfl, rfl⟩
      rw [hd]
      go_wp2
      go_ret
      exact ⟨rfl, Below.refl _ _⟩
    · have hd : decide (len ≤ 1048576) = false := by simp; omega
      go_enter Try.func4, Try.ntmps4
      go_wp2_with fail
      refine (f15_any a len cap w hml).mono ?_
      rintro e w' ⟨rfl, rfl⟩
      rw [hd]
      go_wp2
      go_ret
      exact ⟨rfl, Below.refl _ _⟩
end Go.Proofs.Qxb6000095a
