import Derived.Test.Qxb6000095aBase
namespace Go.Proofs.Qxb6000095a
open Go.RowKit
set_option linter.unusedSimpArgs false
set_option linter.unusedVariables false

theorem info45 : (Try.prog.info? 45).map (fun i => (i.zero, i.size, i.bytes)) = some (some (.agg #[.int .i32 0, .int .i16 0, .int .i32 0, .int .i32 0]), 4, 16) := by kernel_rfl

theorem mk41 (n : Nat) (h : n ≤ 32768) (w : World) : (Instr.makeSlice 41 (.int .i64 (n : Int)) (.int .i64 (n : Int))).run Try.prog w =
    .ok (.slice (some ⟨w.heap.size, 0, none⟩) n n) (w.alloc (.cells (madeCells #[.int .i32 0, .int .i16 0, .int .i32 0, .int .i32 0] (n * 4)) 45)) := by
  obtain ⟨i, hi, hz0, hz1, hz2⟩ := info_parts info45
  have := run_make (P := Try.prog) w 41 45 i _ Try.underlying41 hi hz0 .i64 .i64 (n : Int) (n : Int) (by omega) (by omega) (by rw [hz2]; omega) (by omega)
  rw [hz1] at this
  simpa [Value.cells] using this

theorem f16_nil (w : World) : Calls Try.prog 16 #[.slice none 0 0] w fun e w' => e = .returned (.slice none 0 0) ∧ w' = w := by
  have hq := fun (w : World) (a : Option Addr) (n c : Nat) => Lib.run_eql_slice_nil (P := Try.prog) w 41 45 a n c 0 0 Try.underlying41
  go_enter Try.func16, Try.ntmps16
  go_wp2
  go_ret
  exact ⟨rfl, rfl⟩

set_option maxHeartbeats 1000000 in
theorem f16_zero (x : Addr) (cap : Nat) (w : World) : Calls Try.prog 16 #[.slice (some x) 0 cap] w fun e w' => e = .returned (.slice (some ⟨w.heap.size, 0, none⟩) 0 0) ∧ w' = w.alloc (.cells (madeCells #[.int .i32 0, .int .i16 0, .int .i32 0, .int .i32 0] 0) 45) := by
  have hq := fun (w : World) (a : Option Addr) (n c : Nat) => Lib.run_eql_slice_nil (P := Try.prog) w 41 45 a n c 0 0 Try.underlying41
  have hmk := mk41 0 (by omega)
  simp only [Int.natCast_zero, Nat.zero_mul] at hmk
  go_enter Try.func16, Try.ntmps16
  go_wp2
  go_loop [4] (fun i => i = .int .i64 0) (fun _ => 0)
  case atStart => rfl
  case round =>
    subst hrel
    go_wp2
    go_ret
    exact ⟨rfl, rfl⟩

theorem copied4 (cur : Array Value) (k : Nat) (a b c d : Value) (L Y T N : Nat → Int) (hk : k * 4 + 3 < cur.size)
    (hc : ∀ i, i < k → cur[i * 4]? = some (.int .i32 (L i)) ∧ cur[i * 4 + 1]? = some (.int .i16 (Y i)) ∧ cur[i * 4 + 2]? = some (.int .i32 (T i)) ∧ cur[i * 4 + 3]? = some (.int .i32 (N i)))
    (ha : a = .int .i32 (L k)) (hb : b = .int .i16 (Y k)) (hcc : c = .int .i32 (T k)) (hd : d = .int .i32 (N k)) :
    ∀ i, i < k + 1 → ((((cur.setIfInBounds (k * 4) a).setIfInBounds (k * 4 + 1) b).setIfInBounds (k * 4 + 2) c).setIfInBounds (k * 4 + 3) d)[i * 4]? = some (.int .i32 (L i)) ∧
      ((((cur.setIfInBounds (k * 4) a).setIfInBounds (k * 4 + 1) b).setIfInBounds (k * 4 + 2) c).setIfInBounds (k * 4 + 3) d)[i * 4 + 1]? = some (.int .i16 (Y i)) ∧
      ((((cur.setIfInBounds (k * 4) a).setIfInBounds (k * 4 + 1) b).setIfInBounds (k * 4 + 2) c).setIfInBounds (k * 4 + 3) d)[i * 4 + 2]? = some (.int .i32 (T i)) ∧
      ((((cur.setIfInBounds (k * 4) a).setIfInBounds (k * 4 + 1) b).setIfInBounds (k * 4 + 2) c).setIfInBounds (k * 4 + 3) d)[i * 4 + 3]? = some (.int .i32 (N i)) := by
  intro i hi
  subst ha hb hcc hd
  by_cases h : i = k
  · subst h
    simp only [Array.getElem?_setIfInBounds, Array.size_setIfInBounds]
    refine ⟨?_, ?_, ?_, ?_⟩ <;> simp <;> omega
  · obtain ⟨h0, h1, h2, h3⟩ := hc i (by omega)
    simp only [Array.getElem?_setIfInBounds, Array.size_setIfInBounds]
    refine ⟨?_, ?_, ?_, ?_⟩ <;> (repeat rw [if_neg (by omega)]) <;> assumption

set_option maxHeartbeats 1000000 in
theorem f16_some (b off len cap : Nat) (L Y T N : Nat → Int) (w : World) (hlen : len ≤ 32768) (hpos : 0 < len)
    (h0 : ∀ i, i < len → w.cell? ⟨b, off + i * 4, none⟩ = some (.int .i32 (L i))) (h1 : ∀ i, i < len → w.cell? ⟨b, off + i * 4 + 1, none⟩ = some (.int .i16 (Y i)))
    (h2 : ∀ i, i < len → w.cell? ⟨b, off + i * 4 + 2, none⟩ = some (.int .i32 (T i))) (h3 : ∀ i, i < len → w.cell? ⟨b, off + i * 4 + 3, none⟩ = some (.int .i32 (N i))) :
    Calls Try.prog 16 #[.slice (some ⟨b, off, none⟩) len cap] w fun e w' => e = .returned (.slice (some ⟨w.heap.size, 0, none⟩) len len) ∧
      ∃ cur, w' = w.alloc (.cells cur 45) ∧ cur.size = len * 4 ∧ ∀ i, i < len → cur[i * 4]? = some (.int .i32 (L i)) ∧ cur[i * 4 + 1]? = some (.int .i16 (Y i)) ∧ cur[i * 4 + 2]? = some (.int .i32 (T i)) ∧ cur[i * 4 + 3]? = some (.int .i32 (N i)) := by
  have hq := fun (w : World) (a : Option Addr) (n c : Nat) => Lib.run_eql_slice_nil (P := Try.prog) w 41 45 a n c 0 0 Try.underlying41
  have hmk := mk41 len hlen
  go_enter Try.func16, Try.ntmps16
  go_wp2
  go_loopw [4] (fun i wr => ∃ (k : Nat) (cur : Array Value), k ≤ len ∧ i = .int .i64 k ∧ wr = w.alloc (.cells cur 45) ∧ cur.size = len * 4 ∧
      ∀ i, i < k → cur[i * 4]? = some (.int .i32 (L i)) ∧ cur[i * 4 + 1]? = some (.int .i16 (Y i)) ∧ cur[i * 4 + 2]? = some (.int .i32 (T i)) ∧ cur[i * 4 + 3]? = some (.int .i32 (N i)))
    (fun i _ => len - (intOf i).toNat)
  case atStart => exact ⟨0, _, Nat.zero_le _, rfl, rfl, size_madeCells _ _, fun i hi => absurd hi (Nat.not_lt_zero _)⟩
  case round =>
    obtain ⟨k, cur, hk, rfl, rfl, hsz, hc⟩ := hrel
    by_cases hlt : k < len
    · have g0 := h0 k hlt
      have g1 := h1 k hlt
      have g2 := h2 k hlt
      have g3 := h3 k hlt
      have hb : b < w.heap.size := World.block_lt_of_cell? w _ g0
      have HC : Hid _ := hc
      obtain ⟨v0, e0⟩ : ∃ v, cur[k * 4]? = some v := ⟨_, Array.getElem?_eq_getElem (by omega)⟩
      obtain ⟨v1, e1⟩ : ∃ v, cur[k * 4 + 1]? = some v := ⟨_, Array.getElem?_eq_getElem (by omega)⟩
      obtain ⟨v2, e2⟩ : ∃ v, cur[k * 4 + 2]? = some v := ⟨_, Array.getElem?_eq_getElem (by omega)⟩
      obtain ⟨v3, e3⟩ : ∃ v, cur[k * 4 + 3]? = some v := ⟨_, Array.getElem?_eq_getElem (by omega)⟩
      clear hc h0 h1 h2 h3
      go_wp2
      go_roundw
      case rel =>
        refine ⟨k + 1, _, by omega, by go_num, rfl, by simp [hsz], ?_⟩
        exact copied4 cur k _ _ _ _ L Y T N (by omega) HC.out rfl rfl rfl rfl
      case measure => simp [intOf]; omega
    · go_wp2
      go_ret
      exact ⟨rfl, cur, rfl, hsz, fun i hi => hc i (by omega)⟩
end Go.Proofs.Qxb6000095a
