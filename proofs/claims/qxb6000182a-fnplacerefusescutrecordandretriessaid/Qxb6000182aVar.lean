import Derived.WalkKit
import Derived.Lib.VarintBits
/-! The plain reading of a varint out of a list of bytes. -/
namespace Go.Proofs.Qxb6000182a
set_option linter.unusedSimpArgs false
set_option linter.unusedVariables false

/-- The byte at a place. -/
def gb (l : List Nat) (i : Nat) : Nat := l.getD i 0

/-- Read at most so many bytes from a place on: the whole value, and the place behind its last byte. -/
def dec (l : List Nat) : Nat → Nat → Option (Nat × Nat)
  | 0, _ => none
  | f + 1, i => if i < l.length then (if gb l i < 128 then some (gb l i, i + 1) else (dec l f (i + 1)).map fun p => (gb l i % 128 + 128 * p.1, p.2)) else none

/-- What a reader answers: the value's low 64 bits and the place behind it; 0 and the length's next where no value ends. -/
def ans (l : List Nat) : Option (Nat × Nat) → Nat × Nat
  | none => (0, l.length + 1)
  | some p => (p.1 % 18446744073709551616, p.2)
def uvar (l : List Nat) (i : Nat) : Nat × Nat := ans l (dec l 10 i)

theorem uvar_lt (l : List Nat) (i : Nat) : (uvar l i).1 < 18446744073709551616 := by
  unfold uvar; cases dec l 10 i <;> simp [ans]; omega

theorem dec_le (l : List Nat) : ∀ f i p, dec l f i = some p → i < p.2 ∧ p.2 ≤ l.length
  | 0, i, p, h => by simp [dec] at h
  | f + 1, i, p, h => by
    unfold dec at h
    split at h
    · split at h
      · simp at h; subst h; simp; omega
      · simp only [Option.map_eq_some_iff] at h
        obtain ⟨q, hq, rfl⟩ := h
        have := dec_le l f (i + 1) q hq
        simp; omega
    · simp at h

/-- the index behind a read: past the first place, and at most the length's next -/
theorem uvar_le (l : List Nat) (i : Nat) : (uvar l i).2 ≤ l.length + 1 := by
  unfold uvar; cases h : dec l 10 i with
  | none => simp [ans]
  | some p => have := dec_le l _ _ _ h; simp [ans]; omega
theorem uvar_pos (l : List Nat) (i : Nat) : 1 ≤ (uvar l i).2 := by
  unfold uvar; cases h : dec l 10 i with
  | none => simp [ans]
  | some p => have := dec_le l _ _ _ h; simp [ans]; omega
theorem uvar_ge (l : List Nat) (i : Nat) (hi : i ≤ l.length + 1) : i ≤ (uvar l i).2 := by
  unfold uvar; cases h : dec l 10 i with
  | none => simp [ans]; omega
  | some p => have := dec_le l _ _ _ h; simp [ans]; omega

/-- the low sevens of so many bytes from a place on, as one number -/
def val (l : List Nat) (i : Nat) : Nat → Nat
  | 0 => 0
  | n + 1 => gb l i % 128 + 128 * val l (i + 1) n
theorem val_next (l : List Nat) : ∀ (n i : Nat), val l i (n + 1) = val l i n + 128 ^ n * (gb l (i + n) % 128)
  | 0, i => by simp [val]
  | n + 1, i => by
    have h := val_next l n (i + 1)
    rw [val, h, val, Nat.pow_succ, Nat.add_right_comm i 1 n, Nat.add_assoc i n 1, Nat.mul_add, ← Nat.add_assoc, Nat.mul_comm (128 ^ n) 128, Nat.mul_assoc]
theorem val_lt (l : List Nat) : ∀ (n i : Nat), val l i n < 128 ^ n
  | 0, i => by simp [val]
  | n + 1, i => by have := val_lt l n (i + 1); rw [val, Nat.pow_succ]; omega

/-- so many bytes from i on go on, and the reading goes on behind them -/
def Goes (l : List Nat) (i k : Nat) : Prop := dec l 10 i = (dec l (10 - k) (i + k)).map fun p => (val l i k + 128 ^ k * p.1, p.2)
theorem goes_start (l : List Nat) (i : Nat) : Goes l i 0 := by
  unfold Goes; simp [val]
theorem goes_next {l : List Nat} {i k : Nat} (h : Goes l i k) (hk : k < 10) (hlt : i + k < l.length) (hc : ¬ gb l (i + k) < 128) : Goes l i (k + 1) := by
  unfold Goes at *
  obtain ⟨f, hf⟩ : ∃ f, 10 - k = f + 1 := ⟨9 - k, by omega⟩
  have hf' : 10 - (k + 1) = f := by omega
  rw [h, hf, hf', dec, if_pos hlt, if_neg hc, Option.map_map, val_next]
  congr 1
  funext p
  simp only [Function.comp, Nat.pow_succ, Nat.mul_add, Nat.mul_assoc, Nat.add_assoc]
theorem goes_ends {l : List Nat} {i k : Nat} (h : Goes l i k) (hk : k < 10) (hlt : i + k < l.length) (hc : gb l (i + k) < 128) : uvar l i = (val l i (k + 1) % 18446744073709551616, i + k + 1) := by
  unfold Goes at h
  obtain ⟨f, hf⟩ : ∃ f, 10 - k = f + 1 := ⟨9 - k, by omega⟩
  unfold uvar
  rw [h, hf, dec, if_pos hlt, if_pos hc, val_next, Nat.mod_eq_of_lt (a := gb l (i + k)) hc]
  simp [ans]
theorem goes_none {l : List Nat} {i k : Nat} (h : Goes l i k) (hc : k = 10 ∨ ¬ i + k < l.length) : uvar l i = (0, l.length + 1) := by
  unfold Goes at h
  have : dec l (10 - k) (i + k) = none := by
    rcases hc with rfl | hc
    · rfl
    · cases 10 - k with
      | zero => rfl
      | succ f => rw [dec, if_neg hc]
  unfold uvar
  rw [h, this]; rfl

/-- one more seven is laid above the sevens read so far -/
theorem or_step (A c k : Nat) (hA : A < 128 ^ k) (hk : k < 10) (hc : c < 256) :
    bits .or .u64 (A : Int) ((c : Int) % 128 * 2 ^ (7 * k) % 18446744073709551616) = ((A + 128 ^ k * (c % 128)) % 18446744073709551616 : Nat) := by
  have h10 : k = 0 ∨ k = 1 ∨ k = 2 ∨ k = 3 ∨ k = 4 ∨ k = 5 ∨ k = 6 ∨ k = 7 ∨ k = 8 ∨ k = 9 := by omega
  rcases h10 with rfl | rfl | rfl | rfl | rfl | rfl | rfl | rfl | rfl | rfl <;> simp only [Nat.reduceMul, Nat.reducePow, Int.reducePow, Nat.pow_zero, Nat.mul_zero, Int.pow_zero] at * <;>
    first
    | (refine (u64_orv0 _ _ ?_ ?_ ?_ ?_ ?_).trans ?_ <;> omega)
    | (refine (u64_orv7 _ _ ?_ ?_ ?_ ?_ ?_).trans ?_ <;> omega)
    | (refine (u64_orv14 _ _ ?_ ?_ ?_ ?_ ?_).trans ?_ <;> omega)
    | (refine (u64_orv21 _ _ ?_ ?_ ?_ ?_ ?_).trans ?_ <;> omega)
    | (refine (u64_orv28 _ _ ?_ ?_ ?_ ?_ ?_).trans ?_ <;> omega)
    | (refine (u64_orv35 _ _ ?_ ?_ ?_ ?_ ?_).trans ?_ <;> omega)
    | (refine (u64_orv42 _ _ ?_ ?_ ?_ ?_ ?_).trans ?_ <;> omega)
    | (refine (u64_orv49 _ _ ?_ ?_ ?_ ?_ ?_).trans ?_ <;> omega)
    | (refine (u64_orv56 _ _ ?_ ?_ ?_ ?_ ?_).trans ?_ <;> omega)
    | (refine (u64_orv63 _ _ ?_ ?_ ?_ ?_ ?_).trans ?_ <;> omega)

theorem u64_or_low (v x : Int) (hv : 0 ≤ v) (hv1 : v < 18446744073709551616) (hv2 : v % 128 = 0) (hx : 0 ≤ x) (hx1 : x < 128) : bits .or .u64 v x = v + x := by
  have h := u64_orv7 x v hx hx1 hv hv2 hv1
  have hc : bits .or .u64 v x = bits .or .u64 x v := by simp only [bits, BitVec.or_comm]
  omega
end Go.Proofs.Qxb6000182a
