import Derived.Test.Qxb6000095aTexts
import Derived.Deep.QuietTactic
import Derived.BigQuiet
/-! A []FileRow that came in: the two checks of sizes (7, 8), its clone (9). -/
namespace Go.Proofs.Qxb6000095a
open Go.RowKit
set_option linter.unusedSimpArgs false
set_option linter.unusedVariables false

/-- one row's four cells -/
def FCells (w : World) (a0 a1 a2 a3 : Addr) (p : ByteArray) (y : Int) (g : ByteArray) (l : Int) : Prop :=
  w.cell? a0 = some (.string p) ∧ w.cell? a1 = some (.int .i16 y) ∧ w.cell? a2 = some (.string g) ∧ w.cell? a3 = some (.int .i32 l)

def IsFRows (w : World) (a : Option Addr) (len cap : Nat) (PA : Nat → ByteArray) (YR : Nat → Int) (GR : Nat → ByteArray) (LN : Nat → Int) : Prop :=
  (a = none ∧ len = 0 ∧ cap = 0) ∨ ∃ x : Addr, a = some x ∧ len ≤ cap ∧ cap ≤ maxLen ∧ ∀ i, i < len →
    FCells w (x.add (i * 4)) (x.add (i * 4 + 1)) (x.add (i * 4 + 2)) (x.add (i * 4 + 3)) (PA i) (YR i) (GR i) (LN i)

/-- the numbers fit their kinds, the strings are strings -/
def FFit (len : Nat) (PA : Nat → ByteArray) (YR : Nat → Int) (GR : Nat → ByteArray) (LN : Nat → Int) : Prop :=
  ∀ i, i < len → (PA i).size ≤ maxLen ∧ (GR i).size ≤ maxLen ∧ -32768 ≤ YR i ∧ YR i ≤ 32767 ∧ -2147483648 ≤ LN i ∧ LN i ≤ 2147483647

def FSmall (len : Nat) (PA GR : Nat → ByteArray) (p : ByteArray) : Prop := (∀ i, i < len → (PA i).size ≤ 1048576 ∧ (GR i).size ≤ 1048576) ∧ p.size ≤ 1048576
theorem FSmall.mk {len : Nat} {PA GR : Nat → ByteArray} {p : ByteArray} (h : ∀ i, i < len → (PA i).size ≤ 1048576 ∧ (GR i).size ≤ 1048576) (hp : p.size ≤ 1048576) : FSmall len PA GR p := ⟨h, hp⟩

theorem IsFRows.len {w : World} {a : Option Addr} {len cap : Nat} {PA GR : Nat → ByteArray} {YR LN : Nat → Int} (h : IsFRows w a len cap PA YR GR LN) : len ≤ maxLen := by
  rcases h with ⟨_, rfl, _⟩ | ⟨x, _, h1, h2, _⟩
  · exact Nat.zero_le _
  · omega
theorem IsFRows.pos {w : World} {a : Option Addr} {len cap : Nat} {PA GR : Nat → ByteArray} {YR LN : Nat → Int} (h : IsFRows w a len cap PA YR GR LN) (hl : 0 < len) : ∃ b off, a = some ⟨b, off, none⟩ ∧
    ∀ i, i < len → FCells w ⟨b, off + i * 4, none⟩ ⟨b, off + i * 4 + 1, none⟩ ⟨b, off + i * 4 + 2, none⟩ ⟨b, off + i * 4 + 3, none⟩ (PA i) (YR i) (GR i) (LN i) := by
  rcases h with ⟨_, rfl, _⟩ | ⟨⟨b, off, spot⟩, rfl, h1, h2, hc⟩
  · omega
  · have hspot : spot = none := by simpa [Addr.add] using World.cell?_spot (hc 0 hl).1
    subst hspot
    simp only [Addr.add_lit, ← Nat.add_assoc] at hc
    exact ⟨b, off, rfl, hc⟩

set_option maxHeartbeats 1000000 in
/-- zzBytes_FnOf -/
theorem f7_any (w : World) (a : Option Addr) (len cap : Nat) (PA : Nat → ByteArray) (YR : Nat → Int) (GR : Nat → ByteArray) (LN : Nat → Int) (p : ByteArray) (year : Int) (h : IsFRows w a len cap PA YR GR LN) (hf : FFit len PA YR GR LN) (hp : p.size ≤ maxLen) :
    Calls Try.prog 7 #[.slice a len cap, .string p, .int .i64 year] w (Asked w (FSmall len PA GR p)) := by
  have hl := h.len
  unfold maxLen at hl hp
  by_cases hb : len ≤ 1048576
  · have h1 : ¬ (1048576 : Int) < (len : Int) := by omega
    have HP := hide (fun hp => IsFRows.pos h hp)
    have HF := hide hf
    clear h hf
    go_enter Try.func7, Try.ntmps7
    go_wp2_with fail
    go_loopw [7, 8] (fun t i wr => wr = w ∧ ∃ k n : Nat, k ≤ len ∧ n ≤ 1048576 ∧ i = .int .i64 k ∧ t = .int .i64 n ∧ ∀ j, j < k → (PA j).size ≤ 1048576 ∧ (GR j).size ≤ 1048576) (fun _ i _ => len - (intOf i).toNat)
    case atStart => exact ⟨rfl, 0, len, Nat.zero_le _, hb, rfl, rfl, fun j hj => absurd hj (Nat.not_lt_zero _)⟩
    case round =>
      obtain ⟨rfl, k, n, hk, hn, rfl, rfl, hj⟩ := hrel
      by_cases hlt : k < len
      · obtain ⟨b, off, rfl, hc⟩ := HP.out (by omega)
        obtain ⟨c0, _, c2, _⟩ := hc k hlt
        obtain ⟨z0, z2, _⟩ := HF.out k hlt
        unfold maxLen at z0 z2
        have HJ := hide hj
        clear hc hj
        have p1 : (0 : Int) ≤ (k : Int) := by omega
        have p2 : (k : Int) < (len : Int) := by omega
        obtain ⟨q, hq⟩ : ∃ q, PA k = q := ⟨_, rfl⟩
        obtain ⟨g, hg⟩ : ∃ g, GR k = g := ⟨_, rfl⟩
        rw [hq] at c0 z0
        rw [hg] at c2 z2
        have HQ := hide hq
        have HG := hide hg
        clear hq hg
        by_cases q1 : q.size ≤ 1048576
        · have q1' : ¬ (1048576 : Int) < (q.size : Int) := by omega
          by_cases q2 : n + q.size ≤ 1048576
          · have q2' : ¬ (1048576 : Int) < (n : Int) + (q.size : Int) := by omega
            by_cases q3 : g.size ≤ 1048576
            · have q3' : ¬ (1048576 : Int) < (g.size : Int) := by omega
              by_cases q4 : n + q.size + g.size ≤ 1048576
              · have q4' : ¬ (1048576 : Int) < (n : Int) + (q.size : Int) + (g.size : Int) := by omega
                go_wp2
                go_roundw
                case rel => exact ⟨trivial, k + 1, n + q.size + g.size, by omega, q4, by go_num, by go_num, fun j hj => by
                  by_cases e : j = k
                  · subst e; rw [HQ.out, HG.out]; exact ⟨q1, q3⟩
                  · exact HJ.out j (by omega)⟩
                case measure => simp [intOf]; omega
              · have q4' : (1048576 : Int) < (n : Int) + (q.size : Int) + (g.size : Int) := by omega
                go_wp2
                go_ret
                exact Asked.no _ _
            · have q3' : (1048576 : Int) < (g.size : Int) := by omega
              go_wp2
              go_ret
              exact Asked.no _ _
          · have q2' : (1048576 : Int) < (n : Int) + (q.size : Int) := by omega
            go_wp2
            go_ret
            exact Asked.no _ _
        · have q1' : (1048576 : Int) < (q.size : Int) := by omega
          go_wp2
          go_ret
          exact Asked.no _ _
      · have HJ := hide hj
        clear hj
        by_cases q1 : p.size ≤ 1048576
        · have q1' : ¬ (1048576 : Int) < (p.size : Int) := by omega
          by_cases q2 : n + p.size ≤ 1048576
          · have q2' : ¬ (1048576 : Int) < (n : Int) + (p.size : Int) := by omega
            go_wp2
            go_ret
            exact Asked.yes _ (FSmall.mk (fun i hi => HJ.out i (by omega)) q1)
          · have q2' : (1048576 : Int) < (n : Int) + (p.size : Int) := by omega
            go_wp2
            go_ret
            exact Asked.no _ _
        · have q1' : (1048576 : Int) < (p.size : Int) := by omega
          go_wp2
          go_ret
          exact Asked.no _ _
  · have h1 : (1048576 : Int) < (len : Int) := by omega
    go_enter Try.func7, Try.ntmps7
    go_wp2
    go_ret
    exact Asked.no _ _

/-- the answer of a check that draws -/
def AskedD (w : World) (e : Ending) (w' : World) : Prop := Chg w w' (fun _ => False) ∧ ∃ r, e = .returned (.bool r)
theorem AskedD.mk {w w' : World} (r : Bool) (h : Chg w w' (fun _ => False)) : AskedD w (.returned (.bool r)) w' := ⟨h, r, rfl⟩

set_option maxHeartbeats 1000000 in
/-- fileRowsTooBig -/
theorem f8_any (w : World) (a : Option Addr) (len cap : Nat) (PA : Nat → ByteArray) (YR : Nat → Int) (GR : Nat → ByteArray) (LN : Nat → Int) (p : Nat) (h : IsFRows w a len cap PA YR GR LN) (hs : ∀ i, i < len → (PA i).size ≤ 1048576 ∧ (GR i).size ≤ 1048576) (hp : p ≤ 1048576) (hl : len ≤ 1048576) :
    Calls Try.prog 8 #[.slice a len cap, .int .i64 (p : Int)] w (AskedD w) := by
  have h1 : ¬ (1048576 : Int) < (p : Int) := by omega
  have HP := hide (fun hp => IsFRows.pos h hp)
  have HF := hide hs
  clear h hs
  go_enter Try.func8, Try.ntmps8
  go_wp2_with fail
  go_loopw [5, 6] (fun t i wr => ∃ k n : Nat, k ≤ len ∧ n ≤ 1048576 ∧ i = .int .i64 k ∧ t = .int .i64 n ∧ Chg w wr (fun _ => False)) (fun _ i _ => len - (intOf i).toNat)
  case atStart => exact ⟨0, p, Nat.zero_le _, hp, rfl, rfl, Chg.refl _ _⟩
  case round =>
    obtain ⟨k, n, hk, hn, rfl, rfl, hwr⟩ := hrel
    by_cases hlt : k < len
    · obtain ⟨b, off, rfl, hc⟩ := HP.out (by omega)
      obtain ⟨c0, _, c2, _⟩ := hc k hlt
      obtain ⟨z0, z2⟩ := HF.out k hlt
      have hb : b < w.heap.size := World.block_lt_of_cell? w _ c0
      have d0 : wr.cell? ⟨b, off + k * 4, none⟩ = some (.string (PA k)) := (World.cell?_of_block (w := w) (hwr.block b hb id)).trans c0
      have d2 : wr.cell? ⟨b, off + k * 4 + 2, none⟩ = some (.string (GR k)) := (World.cell?_of_block (w := w) (hwr.block b hb id)).trans c2
      have p1 : (0 : Int) ≤ (k : Int) := by omega
      have p2 : (k : Int) < (len : Int) := by omega
      have HX := hide hwr
      clear hc hwr c0 c2
      generalize PA k = q at *
      generalize GR k = g at *
      by_cases q2 : n + (48 + q.size + g.size) ≤ 1048576
      · have q2' : ¬ (1048576 : Int) < (n : Int) + (48 + (q.size : Int) + (g.size : Int)) := by omega
        go_wp2_with fail
        go_quiet (fail)
        go_wp2
        go_roundw
        case rel => exact ⟨k + 1, n + (48 + q.size + g.size), by omega, q2, by go_num, by go_num, HX.out.drewN _⟩
        case measure => simp [intOf]; omega
      · have q2' : (1048576 : Int) < (n : Int) + (48 + (q.size : Int) + (g.size : Int)) := by omega
        go_wp2_with fail
        go_quiet (fail)
        go_wp2
        go_ret
        exact AskedD.mk _ (HX.out.drewN _)
    · have hn' : ¬ (1048576 : Int) < (n : Int) := by omega
      have HX := hide hwr
      clear hwr
      go_wp2
      go_ret
      exact AskedD.mk _ HX.out

theorem info33 : (Try.prog.info? 33).map (fun i => (i.zero, i.size, i.bytes)) = some (some (.agg #[.string ⟨#[]⟩, .int .i16 0, .string ⟨#[]⟩, .int .i32 0]), 4, 48) := by kernel_rfl

theorem mk22 (n : Nat) (h : n ≤ 32768) : ∃ cur : Array Value, cur.size = n * 4 ∧ ∀ w : World, (Instr.makeSlice 22 (.int .i64 (n : Int)) (.int .i64 (n : Int))).run Try.prog w =
    .ok (.slice (some ⟨w.heap.size, 0, none⟩) n n) (w.alloc (.cells cur 33)) := by
  obtain ⟨i, hi, hz0, hz1, hz2⟩ := info_parts info33
  refine ⟨madeCells #[.string ⟨#[]⟩, .int .i16 0, .string ⟨#[]⟩, .int .i32 0] (n * 4), by rw [size_madeCells], fun w => ?_⟩
  have := run_make (P := Try.prog) w 22 33 i _ Try.underlying22 hi hz0 .i64 .i64 (n : Int) (n : Int) (by omega) (by omega) (by rw [hz2]; omega) (by omega)
  rw [hz1] at this
  simpa [Value.cells] using this

def FHeld (cur : Array Value) (n : Nat) (PA : Nat → ByteArray) (YR : Nat → Int) (GR : Nat → ByteArray) (LN : Nat → Int) : Prop :=
  ∀ i, i < n → cur[i * 4]? = some (.string (PA i)) ∧ cur[i * 4 + 1]? = some (.int .i16 (YR i)) ∧ cur[i * 4 + 2]? = some (.string (GR i)) ∧ cur[i * 4 + 3]? = some (.int .i32 (LN i))

theorem FHeld.next {cur : Array Value} {k : Nat} {PA GR : Nat → ByteArray} {YR LN : Nat → Int} (h : FHeld cur k PA YR GR LN) (hk : k * 4 + 3 < cur.size) :
    FHeld ((((cur.setIfInBounds (k * 4) (.string (PA k))).setIfInBounds (k * 4 + 1) (.int .i16 (YR k))).setIfInBounds (k * 4 + 2) (.string (GR k))).setIfInBounds (k * 4 + 3) (.int .i32 (LN k))) (k + 1) PA YR GR LN := by
  intro i hi
  by_cases e : i = k
  · subst e
    simp only [Array.getElem?_setIfInBounds, Array.size_setIfInBounds]
    refine ⟨?_, ?_, ?_, ?_⟩ <;> simp <;> omega
  · obtain ⟨h0, h1, h2, h3⟩ := h i (by omega)
    simp only [Array.getElem?_setIfInBounds, Array.size_setIfInBounds]
    refine ⟨?_, ?_, ?_, ?_⟩ <;> (repeat rw [if_neg (by omega)]) <;> assumption

/-- a []FileRow of the call's own -/
def FRowed (w : World) (ar : Option Addr) (R n : Nat) (PA : Nat → ByteArray) (YR : Nat → Int) (GR : Nat → ByteArray) (LN : Nat → Int) : Prop :=
  0 < n → ar = some ⟨R, 0, none⟩ ∧ ∃ cur, w.heap[R]? = some (.cells cur 33 (0, 0)) ∧ FHeld cur n PA YR GR LN

theorem FRowed.chg {w w' : World} {ar : Option Addr} {R n : Nat} {PA GR : Nat → ByteArray} {YR LN : Nat → Int} (h : FRowed w ar R n PA YR GR LN) {S : Nat → Prop} (hc : Chg w w' S) (hS : ¬ S R) : FRowed w' ar R n PA YR GR LN := by
  intro hn
  obtain ⟨h1, cur, h2, h3⟩ := h hn
  exact ⟨h1, cur, hc.heap h2 hS, h3⟩

set_option maxHeartbeats 1000000 in
/-- cloneFileRows -/
theorem f9_any (w : World) (a : Option Addr) (len cap : Nat) (PA : Nat → ByteArray) (YR : Nat → Int) (GR : Nat → ByteArray) (LN : Nat → Int) (h : IsFRows w a len cap PA YR GR LN) (hl : len ≤ 32768) :
    Calls Try.prog 9 #[.slice a len cap] w fun e w' => ∃ ar R, e = .returned (.slice ar len len) ∧ FRowed w' ar R len PA YR GR LN ∧ w.heap.size ≤ R ∧ Chg w w' (fun _ => False) := by
  have hq := fun (w : World) (a : Option Addr) (n c : Nat) => Lib.run_eql_slice_nil (P := Try.prog) w 22 33 a n c 0 0 Try.underlying22
  obtain ⟨cur0, hcs0, hmk⟩ := mk22 len hl
  cases a with
  | none =>
    obtain ⟨rfl, rfl⟩ : len = 0 ∧ cap = 0 := by
      rcases h with ⟨_, h1, h2⟩ | ⟨x, h1, _⟩
      · exact ⟨h1, h2⟩
      · cases h1
    go_enter Try.func9, Try.ntmps9
    go_wp2
    go_ret
    exact ⟨none, w.heap.size, rfl, fun h => absurd h (Nat.lt_irrefl _), Nat.le_refl _, Chg.refl _ _⟩
  | some x =>
    have HP := hide (fun hp => IsFRows.pos h hp)
    clear h
    go_enter Try.func9, Try.ntmps9
    go_wp2_with fail
    go_loopw [4] (fun i wr => ∃ (k : Nat) (cur : Array Value), k ≤ len ∧ i = .int .i64 k ∧ wr = w.alloc (.cells cur 33) ∧ cur.size = len * 4 ∧ FHeld cur k PA YR GR LN) (fun i _ => len - (intOf i).toNat)
    case atStart => exact ⟨0, _, Nat.zero_le _, rfl, rfl, hcs0, fun i hi => absurd hi (Nat.not_lt_zero _)⟩
    case round =>
      obtain ⟨k, cur, hk, rfl, rfl, hsz, hc⟩ := hrel
      by_cases hlt : k < len
      · obtain ⟨b, off, hx, hcell⟩ := HP.out (by omega)
        cases hx
        obtain ⟨g0, g1, g2, g3⟩ := hcell k hlt
        have hb : b < w.heap.size := World.block_lt_of_cell? w _ g0
        obtain ⟨v0, e0⟩ : ∃ v, cur[k * 4]? = some v := ⟨_, Array.getElem?_eq_getElem (by omega)⟩
        obtain ⟨v1, e1⟩ : ∃ v, cur[k * 4 + 1]? = some v := ⟨_, Array.getElem?_eq_getElem (by omega)⟩
        obtain ⟨v2, e2⟩ : ∃ v, cur[k * 4 + 2]? = some v := ⟨_, Array.getElem?_eq_getElem (by omega)⟩
        obtain ⟨v3, e3⟩ : ∃ v, cur[k * 4 + 3]? = some v := ⟨_, Array.getElem?_eq_getElem (by omega)⟩
        have p1 : (0 : Int) ≤ (k : Int) := by omega
        have p2 : (k : Int) < (len : Int) := by omega
        have HC := hide hc
        clear hc hcell
        go_wp2
        go_roundw
        case rel => exact ⟨k + 1, _, by omega, by go_num, rfl, by simp [hsz], HC.out.next (by omega)⟩
        case measure => simp [intOf]; omega
      · have HC := hide hc
        clear hc
        go_wp2
        go_ret
        exact ⟨_, w.heap.size, rfl, fun _ => ⟨rfl, cur, heap_new _ rfl, fun i hi => HC.out i (by omega)⟩, Nat.le_refl _, Chg.ofAlloc _ _ _⟩

end Go.Proofs.Qxb6000095a
