import Derived.Test.Qxb6000095aIntern
import Derived.Lib.SliceRun
namespace Go.Proofs.Qxb6000095a
open Go.RowKit
set_option linter.unusedSimpArgs false
set_option linter.unusedVariables false

/-- a []string that came in -/
def IsStrs (w : World) (a : Option Addr) (len cap : Nat) (ss : Nat → ByteArray) : Prop :=
  (a = none ∧ len = 0 ∧ cap = 0) ∨ ∃ x : Addr, a = some x ∧ len ≤ cap ∧ cap ≤ maxLen ∧ ∀ i, i < len → w.cell? (x.add i) = some (.string (ss i)) ∧ (ss i).size ≤ maxLen

theorem IsStrs.len {w : World} {a : Option Addr} {len cap : Nat} {ss : Nat → ByteArray} (h : IsStrs w a len cap ss) : len ≤ maxLen := by
  rcases h with ⟨_, rfl, _⟩ | ⟨x, _, h1, h2, _⟩
  · exact Nat.zero_le _
  · omega
theorem IsStrs.pos {w : World} {a : Option Addr} {len cap : Nat} {ss : Nat → ByteArray} (h : IsStrs w a len cap ss) (hl : 0 < len) : ∃ b off, a = some ⟨b, off, none⟩ ∧ ∀ i, i < len → w.cell? ⟨b, off + i, none⟩ = some (.string (ss i)) := by
  rcases h with ⟨_, rfl, _⟩ | ⟨⟨b, off, spot⟩, rfl, h1, h2, hc⟩
  · omega
  · have hspot : spot = none := by simpa [Addr.add] using World.cell?_spot (hc 0 hl).1
    subst hspot
    simp only [Addr.add_lit] at hc
    exact ⟨b, off, rfl, fun i hi => (hc i hi).1⟩

/-- the answer of a check of sizes: yes wants p -/
def Asked (w : World) (p : Prop) (e : Ending) (w' : World) : Prop := w' = w ∧ ∃ r, e = .returned (.bool r) ∧ (r = true → p)
theorem Asked.no (w : World) (p : Prop) : Asked w p (.returned (.bool false)) w := ⟨rfl, false, rfl, fun h => by cases h⟩
theorem Asked.yes (w : World) {p : Prop} (h : p) : Asked w p (.returned (.bool true)) w := ⟨rfl, true, rfl, fun _ => h⟩

set_option maxHeartbeats 1000000 in
/-- zzBytes_FnIntern -/
theorem f23_any (w : World) (a : Option Addr) (len cap : Nat) (ss : Nat → ByteArray) (h : IsStrs w a len cap ss) :
    Calls Try.prog 23 #[.slice a len cap] w (Asked w (∀ i, i < len → (ss i).size ≤ 1048576)) := by
  have hl := h.len
  unfold maxLen at hl
  by_cases hb : len ≤ 1048576
  · have h1 : ¬ (1048576 : Int) < (len : Int) := by omega
    have HP := hide (fun hp => IsStrs.pos h hp)
    have hsz := hide (show ∀ i, i < len → (ss i).size ≤ 9223372036854775807 by
      rcases h with ⟨_, rfl, _⟩ | ⟨x, _, _, _, hc⟩
      · intro i hi; omega
      · intro i hi; exact (hc i hi).2)
    clear h
    go_enter Try.func23, Try.ntmps23
    go_wp2_with fail
    go_loopw [3, 4] (fun t i wr => wr = w ∧ ∃ k n : Nat, k ≤ len ∧ n ≤ 1048576 ∧ i = .int .i64 k ∧ t = .int .i64 n ∧ ∀ j, j < k → (ss j).size ≤ 1048576) (fun _ i _ => len - (intOf i).toNat)
    case atStart => exact ⟨rfl, 0, len, Nat.zero_le _, hb, rfl, rfl, fun j hj => absurd hj (Nat.not_lt_zero _)⟩
    case round =>
      obtain ⟨rfl, k, n, hk, hn, rfl, rfl, hj⟩ := hrel
      by_cases hlt : k < len
      · obtain ⟨b, off, rfl, hc⟩ := HP.out (by omega)
        have hck := hc k hlt
        have hsk := hsz.out k hlt
        have HJ := hide hj
        clear hc hj
        have p1 : (0 : Int) ≤ (k : Int) := by omega
        have p2 : (k : Int) < (len : Int) := by omega
        generalize hsq : ss k = q at *
        have HQ := hide hsq
        clear hsq
        by_cases q1 : q.size ≤ 1048576
        · have q1' : ¬ (1048576 : Int) < (q.size : Int) := by omega
          by_cases q2 : n + q.size ≤ 1048576
          · have q2' : ¬ (1048576 : Int) < (n : Int) + (q.size : Int) := by omega
            go_wp2
            go_roundw
            case rel => exact ⟨trivial, k + 1, n + q.size, by omega, q2, by go_num, by go_num, fun j hj => by
              by_cases e : j = k
              · subst e; rw [HQ.out]; exact q1
              · exact HJ.out j (by omega)⟩
            case measure => simp [intOf]; omega
          · have q2' : (1048576 : Int) < (n : Int) + (q.size : Int) := by omega
            go_wp2
            go_ret
            exact Asked.no _ _
        · have q1' : (1048576 : Int) < (q.size : Int) := by omega
          go_wp2
          go_ret
          exact Asked.no _ _
      · have HJ := hide hj
        clear hj
        go_wp2
        go_ret
        exact Asked.yes _ (fun i hi => HJ.out i (by omega))
  · have h1 : (1048576 : Int) < (len : Int) := by omega
    go_enter Try.func23, Try.ntmps23
    go_wp2
    go_ret
    exact Asked.no _ _

set_option maxHeartbeats 1000000 in
/-- stringsTooBig -/
theorem f24_any (w : World) (a : Option Addr) (len cap : Nat) (ss : Nat → ByteArray) (h : IsStrs w a len cap ss) (hl : len ≤ 1048576) (hz : ∀ i, i < len → (ss i).size ≤ 1048576) :
    Calls Try.prog 24 #[.slice a len cap] w (Asked w True) := by
  have HP := hide (fun hp => IsStrs.pos h hp)
  have hsz := hide hz
  clear h hz
  go_enter Try.func24, Try.ntmps24
  go_wp2_with fail
  go_loopw [3, 4] (fun t i wr => wr = w ∧ ∃ k n : Nat, k ≤ len ∧ n ≤ 1048576 ∧ i = .int .i64 k ∧ t = .int .i64 n) (fun _ i _ => len - (intOf i).toNat)
  case atStart => exact ⟨rfl, 0, 0, Nat.zero_le _, by omega, rfl, rfl⟩
  case round =>
    obtain ⟨rfl, k, n, hk, hn, rfl, rfl⟩ := hrel
    by_cases hlt : k < len
    · obtain ⟨b, off, rfl, hc⟩ := HP.out (by omega)
      have hck := hc k hlt
      have hsk := hsz.out k hlt
      clear hc
      have p1 : (0 : Int) ≤ (k : Int) := by omega
      have p2 : (k : Int) < (len : Int) := by omega
      generalize ss k = q at *
      by_cases q2 : n + (16 + q.size) ≤ 1048576
      · have q2' : ¬ (1048576 : Int) < (n : Int) + (16 + (q.size : Int)) := by omega
        go_wp2
        go_roundw
        case rel => exact ⟨trivial, k + 1, n + (16 + q.size), by omega, q2, by go_num, by go_num⟩
        case measure => simp [intOf]; omega
      · have q2' : (1048576 : Int) < (n : Int) + (16 + (q.size : Int)) := by omega
        go_wp2
        go_ret
        exact Asked.yes _ trivial
    · have hn' : ¬ (1048576 : Int) < (n : Int) := by omega
      go_wp2
      go_ret
      exact Asked.no _ _

theorem mk54 (n : Nat) (h : n ≤ 1048576) : ∃ cur : Array Value, cur.size = n ∧ ∀ w : World, (Instr.makeSlice 54 (.int .i64 (n : Int)) (.int .i64 (n : Int))).run Try.prog w =
    .ok (.slice (some ⟨w.heap.size, 0, none⟩) n n) (w.alloc (.cells cur 9)) := by
  obtain ⟨i, hi, hz0, hz1, hz2⟩ := info_parts info9
  refine ⟨madeCells #[.string ⟨#[]⟩] (n * 1), by rw [size_madeCells]; omega, fun w => ?_⟩
  have := run_make (P := Try.prog) w 54 9 i _ Try.underlying54 hi hz0 .i64 .i64 (n : Int) (n : Int) (by omega) (by omega) (by rw [hz2]; omega) (by omega)
  rw [hz1] at this
  simpa [Value.cells] using this

/-- a []string of the call's own -/
def Strung (w : World) (ar : Option Addr) (R n : Nat) (ss : Nat → ByteArray) : Prop :=
  0 < n → ar = some ⟨R, 0, none⟩ ∧ ∃ cur, w.heap[R]? = some (.cells cur 9 (0, 0)) ∧ ∀ i, i < n → cur[i]? = some (.string (ss i))

theorem Strung.chg {w w' : World} {ar : Option Addr} {R n : Nat} {ss : Nat → ByteArray} (h : Strung w ar R n ss) {S : Nat → Prop} (hc : Chg w w' S) (hS : ¬ S R) : Strung w' ar R n ss := by
  intro hn
  obtain ⟨h1, cur, h2, h3⟩ := h hn
  exact ⟨h1, cur, hc.heap h2 hS, h3⟩

set_option maxHeartbeats 1000000 in
/-- cloneStrings -/
theorem f25_any (w : World) (a : Option Addr) (len cap : Nat) (ss : Nat → ByteArray) (h : IsStrs w a len cap ss) (hl : len ≤ 1048576) :
    Calls Try.prog 25 #[.slice a len cap] w fun e w' => ∃ ar R, e = .returned (.slice ar len len) ∧ Strung w' ar R len ss ∧ w.heap.size ≤ R ∧ Chg w w' (fun _ => False) := by
  have hq := fun (w : World) (a : Option Addr) (n c : Nat) => Lib.run_eql_slice_nil (P := Try.prog) w 54 9 a n c 0 0 Try.underlying54
  obtain ⟨cur0, hcs0, hmk⟩ := mk54 len hl
  cases a with
  | none =>
    obtain ⟨rfl, rfl⟩ : len = 0 ∧ cap = 0 := by
      rcases h with ⟨_, h1, h2⟩ | ⟨x, h1, _⟩
      · exact ⟨h1, h2⟩
      · cases h1
    go_enter Try.func25, Try.ntmps25
    go_wp2
    go_ret
    exact ⟨none, w.heap.size, rfl, fun h => absurd h (Nat.lt_irrefl _), Nat.le_refl _, Chg.refl _ _⟩
  | some x =>
    have HP := hide (fun hp => IsStrs.pos h hp)
    clear h
    go_enter Try.func25, Try.ntmps25
    go_wp2_with fail
    go_loopw [4] (fun i wr => ∃ (k : Nat) (cur : Array Value), k ≤ len ∧ i = .int .i64 k ∧ wr = w.alloc (.cells cur 9) ∧ cur.size = len ∧ ∀ i, i < k → cur[i]? = some (.string (ss i))) (fun i _ => len - (intOf i).toNat)
    case atStart => exact ⟨0, _, Nat.zero_le _, rfl, rfl, hcs0, fun i hi => absurd hi (Nat.not_lt_zero _)⟩
    case round =>
      obtain ⟨k, cur, hk, rfl, rfl, hsz, hc⟩ := hrel
      by_cases hlt : k < len
      · obtain ⟨b, off, hx, hcell⟩ := HP.out (by omega)
        cases hx
        have g0 := hcell k hlt
        have hb : b < w.heap.size := World.block_lt_of_cell? w _ g0
        have HC := hide hc
        obtain ⟨v0, e0⟩ : ∃ v, cur[k]? = some v := ⟨_, Array.getElem?_eq_getElem (by omega)⟩
        have p1 : (0 : Int) ≤ (k : Int) := by omega
        have p2 : (k : Int) < (len : Int) := by omega
        clear hc hcell
        go_wp2
        go_roundw
        case rel =>
          refine ⟨k + 1, _, by omega, by go_num, rfl, by simp [hsz], fun i hi => ?_⟩
          by_cases e : i = k
          · subst e; rw [Array.getElem?_setIfInBounds_self_of_lt (by omega)]
          · rw [Array.getElem?_setIfInBounds_ne (by omega)]; exact HC.out i (by omega)
        case measure => simp [intOf]; omega
      · have HC := hide hc
        clear hc
        go_wp2
        go_ret
        exact ⟨_, w.heap.size, rfl, fun _ => ⟨rfl, cur, heap_new _ rfl, fun i hi => HC.out i (by omega)⟩, Nat.le_refl _, Chg.ofAlloc _ _ _⟩

/-- ZZB1Texts -/
theorem f26_any (w : World) (G : Nat) (f vm ct tx tm la : Value) (hG : w.heap[G]? = some (.cells #[f, vm, ct, tx, tm, la] 61 (0, 0))) :
    Calls Try.prog 26 #[.pointer (some ⟨G, 0, none⟩)] w fun e w' => e = .returned tx ∧ w' = w := by
  have c3 : w.cell? ⟨G, 3, none⟩ = some tx := cell_of_block hG 3
  clear hG
  go_enter Try.func26, Try.ntmps26
  go_wp2
  go_ret
  exact ⟨rfl, rfl⟩

/-- ZZB1TextOfLen -/
theorem f27_any (w : World) (G Tb c : Nat) (f vm ct tx la : Value) (q : ByteArray → Option Int) (hM : SMap w Tb c q) (hG : w.heap[G]? = some (.cells #[f, vm, ct, tx, .map (some Tb), la] 61 (0, 0))) :
    Calls Try.prog 27 #[.pointer (some ⟨G, 0, none⟩)] w fun e w' => e = .returned (.int .i64 (c : Int)) ∧ w' = w := by
  have c4 : w.cell? ⟨G, 4, none⟩ = some (.map (some Tb)) := cell_of_block hG 4
  have hlen := hM.len
  clear hG hM
  go_enter Try.func27, Try.ntmps27
  go_wp2
  go_ret
  exact ⟨rfl, rfl⟩

/-- ZZB1TextOf -/
theorem f28_any (w : World) (G Tb c : Nat) (f vm ct tx la : Value) (q : ByteArray → Option Int) (hM : SMap w Tb c q) (hG : w.heap[G]? = some (.cells #[f, vm, ct, tx, .map (some Tb), la] 61 (0, 0))) (s : ByteArray) (hs : s.size ≤ maxLen) (v : Int) (hv : q s = some v) :
    Calls Try.prog 28 #[.pointer (some ⟨G, 0, none⟩), .string s] w fun e w' => e = .returned (.tuple #[.int .i32 v, .bool true]) ∧ w' = w := by
  have c4 : w.cell? ⟨G, 4, none⟩ = some (.map (some Tb)) := cell_of_block hG 4
  have hl := hM.look hs
  rw [hv] at hl
  simp only [Option.getD_some, Option.isSome_some] at hl
  clear hG hM hv
  go_enter Try.func28, Try.ntmps28
  go_wp2
  go_ret2
  exact ⟨rfl, rfl⟩

end Go.Proofs.Qxb6000095a
