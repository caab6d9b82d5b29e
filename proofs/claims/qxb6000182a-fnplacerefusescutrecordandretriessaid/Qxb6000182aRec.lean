import Derived.Test.Qxb6000182aEnc
import Derived.WalkKit
/-! The plain record: what place answers over a record that was written plainly, and over every cut of it. -/
namespace Go.Proofs.Qxb6000182a
open Go.RowKit
set_option linter.unusedSimpArgs false
set_option linter.unusedVariables false

/-- the flags' byte -/
def flg (b1 b2 b3 b4 : Bool) : Nat := (if b1 then 64 else 0) + (if b2 then 128 else 0) + (if b3 then 8 else 0) + (if b4 then 4 else 0)
theorem flg_lt (b1 b2 b3 b4 : Bool) : flg b1 b2 b3 b4 < 256 := by cases b1 <;> cases b2 <;> cases b3 <;> cases b4 <;> decide
theorem flg64 (b1 b2 b3 b4 : Bool) : (bits .and .u8 (flg b1 b2 b3 b4 : Int) 64 = 0) ↔ b1 = false := by cases b1 <;> cases b2 <;> cases b3 <;> cases b4 <;> decide
theorem flg128 (b1 b2 b3 b4 : Bool) : (bits .and .u8 (flg b1 b2 b3 b4 : Int) 128 = 0) ↔ b2 = false := by cases b1 <;> cases b2 <;> cases b3 <;> cases b4 <;> decide
theorem flg8 (b1 b2 b3 b4 : Bool) : (bits .and .u8 (flg b1 b2 b3 b4 : Int) 8 = 0) ↔ b3 = false := by cases b1 <;> cases b2 <;> cases b3 <;> cases b4 <;> decide
theorem flg4 (b1 b2 b3 b4 : Bool) : (bits .and .u8 (flg b1 b2 b3 b4 : Int) 4 = 0) ↔ b4 = false := by cases b1 <;> cases b2 <;> cases b3 <;> cases b4 <;> decide

/-- the numbers of a record, each as the varint that is written -/
structure Nums where
  s : Nat
  z1 : Nat
  z2 : Nat
  t : Nat
  d : Nat
  u : Nat
structure Nums.Ok (m : Nums) : Prop where
  s : m.s < 18446744073709551616
  z1 : m.z1 < 18446744073709551616
  z2 : m.z2 < 18446744073709551616
  t : m.t < 4294967296
  d : m.d < 18446744073709551616
  u : m.u < 4294967296

def part1 (b1 : Bool) (m : Nums) : List Nat := if b1 then [] else uv m.s
def part2 (b2 : Bool) (m : Nums) : List Nat := if b2 then [] else uv m.z1 ++ uv m.z2
def part3 (b3 : Bool) (m : Nums) : List Nat := if b3 then [] else uv m.t
def part4 (b3 b4 : Bool) (m : Nums) : List Nat := if b4 then uv m.d ++ (if b3 then [] else uv m.u) else []
/-- a record -/
def recd (b1 b2 b3 b4 : Bool) (m : Nums) : List Nat := flg b1 b2 b3 b4 :: (part1 b1 m ++ (part2 b2 m ++ (part3 b3 m ++ part4 b3 b4 m)))

/-- The reading of a whole record, whatever comes behind it: the places and the numbers. -/
structure Whole (L : List Nat) (b1 b2 b3 b4 : Bool) (m : Nums) (i1 ia i2 i3 ib i4 : Nat) : Prop where
  r1 : b1 = false → uvar L 1 = (m.s, i1) ∧ 1 < i1
  r1' : b1 = true → i1 = 1
  r2 : b2 = false → uvar L i1 = (m.z1, ia) ∧ uvar L ia = (m.z2, i2) ∧ i1 < ia ∧ ia < i2
  r2' : b2 = true → i2 = i1
  r3 : b3 = false → uvar L i2 = (m.t, i3) ∧ i2 < i3
  r3' : b3 = true → i3 = i2
  r4 : b4 = true → uvar L i3 = (m.d, ib) ∧ i3 < ib ∧ (b3 = false → uvar L ib = (m.u, i4) ∧ ib < i4) ∧ (b3 = true → i4 = ib)
  r4' : b4 = false → i4 = i3
  le : i4 ≤ L.length

theorem whole_of (b1 b2 b3 b4 : Bool) (m : Nums) (hm : m.Ok) (L post : List Nat) (h : L = recd b1 b2 b3 b4 m ++ post) :
    ∃ i1 ia i2 i3 ib, Whole L b1 b2 b3 b4 m i1 ia i2 i3 ib (recd b1 b2 b3 b4 m).length := by
  have h1 : L.drop 1 = part1 b1 m ++ (part2 b2 m ++ (part3 b3 m ++ (part4 b3 b4 m ++ post))) := by rw [h, recd]; simp
  have hlen : (recd b1 b2 b3 b4 m).length = 1 + ((part1 b1 m).length + ((part2 b2 m).length + ((part3 b3 m).length + (part4 b3 b4 m).length))) := by rw [recd]; simp; omega
  have hle : (recd b1 b2 b3 b4 m).length ≤ L.length := by rw [h]; simp
  obtain ⟨i1, hi1, d1, r1, r1'⟩ : ∃ i1, i1 = 1 + (part1 b1 m).length ∧ L.drop i1 = part2 b2 m ++ (part3 b3 m ++ (part4 b3 b4 m ++ post)) ∧ (b1 = false → uvar L 1 = (m.s, i1) ∧ 1 < i1) ∧ (b1 = true → i1 = 1) := by
    cases b1 with
    | true => exact ⟨1, by simp [part1], by simpa [part1] using h1, fun h => by simp at h, fun _ => rfl⟩
    | false =>
      obtain ⟨e1, e2, e3⟩ := uvar_uv hm.s (L := L) (i := 1) (by rw [h1]; simp only [part1]; rfl)
      exact ⟨_, by simp [part1], e2, fun _ => ⟨e1, by have := uv_pos m.s; omega⟩, fun h => by simp at h⟩
  obtain ⟨ia, i2, hi2, d2, r2, r2'⟩ : ∃ ia i2, i2 = i1 + (part2 b2 m).length ∧ L.drop i2 = part3 b3 m ++ (part4 b3 b4 m ++ post) ∧ (b2 = false → uvar L i1 = (m.z1, ia) ∧ uvar L ia = (m.z2, i2) ∧ i1 < ia ∧ ia < i2) ∧ (b2 = true → i2 = i1) := by
    cases b2 with
    | true => exact ⟨0, i1, by simp [part2], by simpa [part2] using d1, fun h => by simp at h, fun _ => rfl⟩
    | false =>
      obtain ⟨e1, e2, e3⟩ := uvar_uv hm.z1 (x := uv m.z2 ++ (part3 b3 m ++ (part4 b3 b4 m ++ post))) (by simpa [part2] using d1)
      obtain ⟨g1, g2, g3⟩ := uvar_uv hm.z2 e2
      exact ⟨_, _, by simp [part2]; omega, g2, fun _ => ⟨e1, g1, by have := uv_pos m.z1; omega, by have := uv_pos m.z2; omega⟩, fun h => by simp at h⟩
  obtain ⟨i3, hi3, d3, r3, r3'⟩ : ∃ i3, i3 = i2 + (part3 b3 m).length ∧ L.drop i3 = part4 b3 b4 m ++ post ∧ (b3 = false → uvar L i2 = (m.t, i3) ∧ i2 < i3) ∧ (b3 = true → i3 = i2) := by
    cases b3 with
    | true => exact ⟨i2, by simp [part3], by simpa [part3] using d2, fun h => by simp at h, fun _ => rfl⟩
    | false =>
      obtain ⟨e1, e2, e3⟩ := uvar_uv (v := m.t) (by have := hm.t; omega) (by simpa [part3] using d2)
      exact ⟨_, by simp [part3], e2, fun _ => ⟨e1, by have := uv_pos m.t; omega⟩, fun h => by simp at h⟩
  have hl3 : (recd b1 b2 b3 b4 m).length = i3 + (part4 b3 b4 m).length := by omega
  rw [hl3] at hle ⊢
  cases b4 with
  | false => exact ⟨i1, ia, i2, i3, 0, r1, r1', r2, r2', r3, r3', fun h => by simp at h, fun _ => by simp [part4], hle⟩
  | true =>
    cases b3 with
    | true =>
      obtain ⟨e1, e2, e3⟩ := uvar_uv hm.d (x := post) (by simpa [part4] using d3)
      exact ⟨i1, ia, i2, i3, _, r1, r1', r2, r2', r3, r3', fun _ => ⟨e1, by have := uv_pos m.d; omega, fun h => by simp at h, fun _ => by simp [part4]⟩, fun h => by simp at h, hle⟩
    | false =>
      obtain ⟨e1, e2, e3⟩ := uvar_uv hm.d (x := uv m.u ++ post) (by simpa [part4] using d3)
      obtain ⟨g1, g2, g3⟩ := uvar_uv (v := m.u) (by have := hm.u; omega) e2
      exact ⟨i1, ia, i2, i3, _, r1, r1', r2, r2', r3, r3', fun _ => ⟨e1, by have := uv_pos m.d; omega, fun _ => ⟨by rw [g1]; simp [part4]; omega, by have := uv_pos m.u; simp [part4]; omega⟩, fun h => by simp at h⟩, fun h => by simp at h, hle⟩

theorem rec_pos (b1 b2 b3 b4 : Bool) (m : Nums) : 1 ≤ (recd b1 b2 b3 b4 m).length := by rw [recd]; simp
theorem rec_head (b1 b2 b3 b4 : Bool) (m : Nums) (L post : List Nat) (h : L = recd b1 b2 b3 b4 m ++ post) : gb L 0 = flg b1 b2 b3 b4 := by rw [h, recd]; rfl

theorem rec_len (b1 b2 b3 b4 : Bool) (m : Nums) (hm : m.Ok) : (recd b1 b2 b3 b4 m).length ≤ 51 := by
  have h1 := uv_len64 hm.s
  have h2 := uv_len64 hm.z1
  have h3 := uv_len64 hm.z2
  have h4 := uv_len32 hm.t
  have h5 := uv_len64 hm.d
  have h6 := uv_len32 hm.u
  have e1 : (part1 b1 m).length ≤ 10 := by cases b1 <;> simp [part1]; omega
  have e2 : (part2 b2 m).length ≤ 20 := by cases b2 <;> simp [part2]; omega
  have e3 : (part3 b3 m).length ≤ 5 := by cases b3 <;> simp [part3]; omega
  have e4 : (part4 b3 b4 m).length ≤ 15 := by cases b3 <;> cases b4 <;> simp [part4] <;> omega
  rw [recd]; simp; omega
end Go.Proofs.Qxb6000182a
