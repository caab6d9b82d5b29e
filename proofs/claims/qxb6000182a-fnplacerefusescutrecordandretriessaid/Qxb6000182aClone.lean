import Derived.Test.Qxb6000182aRead
/-! b1CloneBytes, and the bounds laid by program. -/
namespace Go.Proofs.Qxb6000182a
open Go.RowKit
set_option linter.unusedSimpArgs false
set_option linter.unusedVariables false

theorem info5 : (Try.prog.info? 5).map (fun i => (i.zero, i.size, i.bytes)) = some (some (.int .u8 0), 1, 1) := by kernel_rfl

theorem mk22 (n : Nat) (h : n ≤ 1073741824) (w : World) : (Instr.makeSlice 22 (.int .i64 (n : Int)) (.int .i64 (n : Int))).run Try.prog w =
    .ok (.slice (some ⟨w.heap.size, 0, none⟩) n n) (w.alloc (.cells (madeCells #[.int .u8 0] n) 5)) := by
  obtain ⟨i, hi, hz0, hz1, hz2⟩ := info_parts info5
  have := run_make (P := Try.prog) w 22 5 i _ Try.underlying22 hi hz0 .i64 .i64 (n : Int) (n : Int) (by omega) (by omega) (by rw [hz2]; omega) (by omega)
  rw [hz1] at this
  simpa [Value.cells] using this

theorem f12_nil (w : World) : Calls Try.prog 12 #[.slice none 0 0] w fun e w' => e = .returned (.slice none 0 0) ∧ w' = w := by
  have hq := fun (w : World) (a : Option Addr) (n c : Nat) => Lib.run_eql_slice_nil (P := Try.prog) w 22 5 a n c 0 0 Try.underlying22
  go_enter Try.func12, Try.ntmps12
  go_wp2
  go_ret
  exact ⟨rfl, rfl⟩

set_option maxRecDepth 100000 in
set_option maxHeartbeats 1000000 in
theorem f12_some (x : Addr) (l : List Nat) (cap : Nat) (w : World) (hlen : l.length ≤ 1073741824)
    (h0 : ∀ i, i < l.length → w.cell? (x.add i) = some (.int .u8 (gb l i : Int))) :
    Calls Try.prog 12 #[.slice (some x) l.length cap] w fun e w' => e = .returned (.slice (some ⟨w.heap.size, 0, none⟩) l.length l.length) ∧
      ∃ cur, w' = w.alloc (.cells cur 5) ∧ cur.size = l.length ∧ ∀ i, i < l.length → cur[i]? = some (.int .u8 (gb l i : Int)) := by
  have hq := fun (w : World) (a : Option Addr) (n c : Nat) => Lib.run_eql_slice_nil (P := Try.prog) w 22 5 a n c 0 0 Try.underlying22
  obtain ⟨mk, hmk0, hmks⟩ : ∃ mk : Array Value, (∀ w : World, (Instr.makeSlice 22 (.int .i64 (l.length : Int)) (.int .i64 (l.length : Int))).run Try.prog w =
    .ok (.slice (some ⟨w.heap.size, 0, none⟩) l.length l.length) (w.alloc (.cells mk 5))) ∧ mk.size = l.length := ⟨_, mk22 l.length hlen, size_madeCells _ _⟩
  generalize hn : l.length = n at *
  obtain ⟨b, off, spot⟩ := x
  have hs : 0 < n → spot = none := fun hi => by simpa [Addr.add] using World.cell?_spot (h0 0 hi)
  have h0' : ∀ i, i < n → w.cell? ⟨b, off + i, none⟩ = some (.int .u8 (gb l i : Int)) := by
    intro i hi
    have := h0 i hi
    obtain rfl : spot = none := hs (by omega)
    simpa [Addr.add_lit] using this
  clear h0
  go_enter Try.func12, Try.ntmps12
  go_wp2
  go_loopw [4] (fun i wr => ∃ (k : Nat) (cur : Array Value), k ≤ n ∧ i = .int .i64 k ∧ wr = w.alloc (.cells cur 5) ∧ cur.size = n ∧ ∀ i, i < k → cur[i]? = some (.int .u8 (gb l i : Int)))
    (fun i _ => n - (intOf i).toNat)
  case atStart => exact ⟨0, mk, Nat.zero_le _, rfl, rfl, hmks, fun i hi => absurd hi (Nat.not_lt_zero _)⟩
  case round =>
    obtain ⟨k, cur, hk, rfl, rfl, hsz, hc⟩ := hrel
    by_cases hlt : k < n
    · obtain rfl := hs (by omega)
      have g0 := h0' k hlt
      have hb : b < w.heap.size := World.block_lt_of_cell? w _ g0
      have HC : Hid _ := hc
      obtain ⟨v0, e0⟩ : ∃ v, cur[k]? = some v := ⟨_, Array.getElem?_eq_getElem (by omega)⟩
      have HH := hide h0'
      generalize hgb : gb l k = c at *
      clear hc h0' hs
      go_wp2
      go_roundw
      case rel =>
        refine ⟨k + 1, _, by omega, by go_num, rfl, by simp [hsz], ?_⟩
        intro i hi
        by_cases e : i = k
        · subst e; rw [Array.getElem?_setIfInBounds]; simp [hsz, hlt, hgb]
        · rw [Array.getElem?_setIfInBounds, if_neg (by omega)]; exact HC.out i (by omega)
      case measure => simp [intOf]; omega
    · go_wp2
      go_ret
      exact ⟨rfl, cur, rfl, hsz, fun i hi => hc i (by omega)⟩

theorem Lies.chg {w w' : World} {a : Option Addr} {l : List Nat} (h : Lies w a l) {S : Nat → Prop} (hc : Chg w w' S) (hS : ∀ R, a = some ⟨R, 0, none⟩ → ¬ S R) : Lies w' a l := by
  refine ⟨h.1, fun hp => ?_⟩
  obtain ⟨R, ha, hcell⟩ := h.2 hp
  refine ⟨R, ha, fun i hi => ?_⟩
  have h1 := hcell i hi
  rw [World.cell?_of_block (w := w) (w' := w') (hc.block R (World.block_lt_of_cell? w _ h1) (hS R ha))]; exact h1

/-- the clone of a row that came in: a row of the call's own, or nil for nil -/
theorem f12_all (w : World) (a : Option Addr) (l : List Nat) (cap : Nat) (hl : l.length ≤ 1073741824) (hb : ∀ i, i < l.length → gb l i < 256)
    (h : (a = none ∧ l.length = 0 ∧ cap = 0) ∨ ∃ x, a = some x ∧ ∀ i, i < l.length → w.cell? (x.add i) = some (.int .u8 (gb l i : Int))) :
    Calls Try.prog 12 #[.slice a l.length cap] w fun e w' => ∃ ar cap', e = .returned (.slice ar l.length cap') ∧ Lies w' ar l ∧ (∀ R, ar = some ⟨R, 0, none⟩ → w.heap.size ≤ R ∧ R < w'.heap.size) ∧ Chg w w' (fun _ => False) := by
  rcases h with ⟨rfl, h0, rfl⟩ | ⟨x, rfl, hc⟩
  · rw [h0]
    refine (f12_nil w).mono ?_
    rintro e w' ⟨rfl, rfl⟩
    exact ⟨none, 0, rfl, ⟨hb, fun h => by omega⟩, fun R h => by simp at h, Chg.refl _ _⟩
  · refine (f12_some x l cap w hl hc).mono ?_
    rintro e w' ⟨rfl, cur, rfl, hs, hcur⟩
    refine ⟨_, _, rfl, ⟨hb, fun _ => ⟨_, rfl, fun i hi => ?_⟩⟩, ?_, Chg.ofAlloc _ _ _⟩
    · rw [cell_of_block (heap_new _ rfl)]; exact hcur i hi
    · intro R hR; simp at hR; subst hR; simp
end Go.Proofs.Qxb6000182a
