import Derived.Test.Qxb6000182aVar
/-! The plain writing of a varint, and that the reader reads it back, and refuses every cut of it. -/
namespace Go.Proofs.Qxb6000182a
set_option linter.unusedSimpArgs false
set_option linter.unusedVariables false

def uv (v : Nat) : List Nat := if h : v < 128 then [v] else (v % 128 + 128) :: uv (v / 128)
  termination_by v
  decreasing_by omega

theorem uv_small {v : Nat} (h : v < 128) : uv v = [v] := by rw [uv, dif_pos h]
theorem uv_big {v : Nat} (h : ¬ v < 128) : uv v = (v % 128 + 128) :: uv (v / 128) := by rw [uv, dif_neg h]

theorem uv_pos (v : Nat) : 1 ≤ (uv v).length := by
  by_cases h : v < 128
  · rw [uv_small h]; simp
  · rw [uv_big h]; simp
theorem uv_len : ∀ (f v : Nat), v < 128 ^ (f + 1) → (uv v).length ≤ f + 1
  | 0, v, h => by rw [uv_small (by simpa using h)]; simp
  | f + 1, v, h => by
    by_cases hv : v < 128
    · rw [uv_small hv]; simp
    · have hq : v / 128 < 128 ^ (f + 1) := by rw [Nat.pow_succ] at h; omega
      have := uv_len f (v / 128) hq
      rw [uv_big hv]; simp; omega
theorem uv_len64 {v : Nat} (h : v < 18446744073709551616) : (uv v).length ≤ 10 := uv_len 9 v (Nat.lt_of_lt_of_le h (by decide))
theorem uv_len32 {v : Nat} (h : v < 4294967296) : (uv v).length ≤ 5 := uv_len 4 v (Nat.lt_of_lt_of_le h (by decide))
theorem uv_byte : ∀ (f v : Nat), v < 128 ^ (f + 1) → ∀ x ∈ uv v, x < 256
  | 0, v, h, x, hx => by
    have hv : v < 128 := by simpa using h
    rw [uv_small hv] at hx; simp at hx; omega
  | f + 1, v, h, x, hx => by
    by_cases hv : v < 128
    · rw [uv_small hv] at hx; simp at hx; omega
    · have hq : v / 128 < 128 ^ (f + 1) := by rw [Nat.pow_succ] at h; omega
      rw [uv_big hv, List.mem_cons] at hx
      rcases hx with rfl | hx
      · omega
      · exact uv_byte f (v / 128) hq x hx
theorem uv_byte64 {v : Nat} (h : v < 18446744073709551616) : ∀ x ∈ uv v, x < 256 := uv_byte 9 v (Nat.lt_of_lt_of_le h (by decide))

theorem drop_cons {L : List Nat} {i a : Nat} {x : List Nat} (h : L.drop i = a :: x) : i < L.length ∧ gb L i = a ∧ L.drop (i + 1) = x := by
  have hi : i < L.length := by
    apply Decidable.byContradiction
    intro hn
    rw [List.drop_eq_nil_of_le (by omega)] at h
    cases h
  rw [List.drop_eq_getElem_cons hi] at h
  obtain ⟨h1, h2⟩ := List.cons.inj h
  refine ⟨hi, ?_, h2⟩
  simp [gb, List.getD_eq_getElem?_getD, List.getElem?_eq_getElem hi, h1]

/-- a varint that lies at a place is read back -/
theorem dec_uv : ∀ (f v : Nat) (L : List Nat) (i : Nat) (x : List Nat), L.drop i = uv v ++ x → v < 128 ^ (f + 1) → dec L (f + 1) i = some (v, i + (uv v).length) ∧ L.drop (i + (uv v).length) = x := by
  intro f
  induction f with
  | zero =>
    intro v L i x h hv
    have hs : v < 128 := by simpa using hv
    rw [uv_small hs] at h ⊢
    obtain ⟨h1, h2, h3⟩ := drop_cons (by simpa using h)
    exact ⟨by rw [dec, if_pos h1, h2, if_pos hs]; rfl, h3⟩
  | succ f ih =>
    intro v L i x h hv
    by_cases hs : v < 128
    · rw [uv_small hs] at h ⊢
      obtain ⟨h1, h2, h3⟩ := drop_cons (by simpa using h)
      exact ⟨by rw [dec, if_pos h1, h2, if_pos hs]; rfl, h3⟩
    · rw [uv_big hs] at h ⊢
      obtain ⟨h1, h2, h3⟩ := drop_cons (by simpa using h)
      have hq : v / 128 < 128 ^ (f + 1) := by rw [Nat.pow_succ] at hv; omega
      obtain ⟨e1, e2⟩ := ih (v / 128) L (i + 1) x h3 hq
      refine ⟨?_, ?_⟩
      · rw [dec, if_pos h1, h2, if_neg (by omega), e1]
        simp
        omega
      · simpa [Nat.add_assoc, Nat.add_comm 1] using e2

theorem uvar_uv {v : Nat} (hv : v < 18446744073709551616) {L : List Nat} {i : Nat} {x : List Nat} (h : L.drop i = uv v ++ x) : uvar L i = (v, i + (uv v).length) ∧ L.drop (i + (uv v).length) = x ∧ i + (uv v).length ≤ L.length := by
  obtain ⟨h1, h2⟩ := dec_uv 9 v L i x h (Nat.lt_of_lt_of_le hv (by decide))
  refine ⟨?_, h2, ?_⟩
  · unfold uvar; rw [h1]; simp [ans]; omega
  · exact (dec_le _ _ _ _ h1).2

/-- what a cut of the list does to a reading that came to its end -/
theorem dec_take (L : List Nat) (k : Nat) : ∀ (f i : Nat) (p : Nat × Nat), dec L f i = some p → dec (L.take k) f i = if p.2 ≤ k then some p else none
  | 0, i, p, h => by simp [dec] at h
  | f + 1, i, p, h => by
    have hle := dec_le _ _ _ _ h
    rw [dec] at h
    have hi : i < L.length := by omega
    rw [if_pos hi] at h
    by_cases hk : i < k
    · have hi' : i < (L.take k).length := by simp; omega
      have hg : gb (L.take k) i = gb L i := by simp [gb, List.getD_eq_getElem?_getD, List.getElem?_take, hk]
      rw [dec, if_pos hi', hg]
      by_cases hc : gb L i < 128
      · rw [if_pos hc] at h ⊢
        cases h
        rw [if_pos (by simp; omega)]
      · rw [if_neg hc] at h ⊢
        rw [Option.map_eq_some_iff] at h
        obtain ⟨q, hq, rfl⟩ := h
        rw [dec_take L k f (i + 1) q hq]
        by_cases hj : q.2 ≤ k
        · rw [if_pos hj, if_pos hj]; rfl
        · rw [if_neg hj, if_neg hj]; rfl
    · have hi' : ¬ i < (L.take k).length := by simp; omega
      rw [dec, if_neg hi', if_neg (by omega)]

/-- a reading behind the end -/
theorem uvar_past (L : List Nat) (i : Nat) (h : L.length ≤ i) : uvar L i = (0, L.length + 1) := by
  unfold uvar; rw [dec, if_neg (by omega)]; rfl
end Go.Proofs.Qxb6000182a
