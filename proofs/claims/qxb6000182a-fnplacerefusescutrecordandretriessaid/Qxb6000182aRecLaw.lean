import Derived.Test.Qxb6000182aRec
import Derived.Test.Qxb6000182aPlace
/-! What place answers over a whole record and over a cut one. -/
namespace Go.Proofs.Qxb6000182a
open Go.RowKit
set_option linter.unusedSimpArgs false
set_option linter.unusedVariables false

/-- The numbers and flags of a record say, against a codec, this place. -/
structure Means (b1 b2 b3 b4 : Bool) (m : Nums) (c : Cod) (rS rL tS tN aS aN ns nss : Int) : Prop where
  ok : m.Ok
  s : b1 = true → c.series = rS
  s' : wrap64 (m.s : Int) = rS
  st : b2 = true → c.step = ns ∧ c.secStep = nss
  st' : unz m.z1 = ns ∧ unz m.z2 = nss
  line : wrap64 (c.line + ns) = rL
  sec : wrap64 (c.sec + nss) = tS
  whole : b3 = true → tN = 0 ∧ aN = 0
  t : wrap32 (m.t : Int) = tN
  u : wrap32 (m.u : Int) = aN
  late : b4 = false → aS = tS ∧ aN = tN
  d : wrap64 (tS - wrap64 (m.d : Int)) = aS

theorem got_whole {b1 b2 b3 b4 : Bool} {m : Nums} {c : Cod} {rS rL tS tN aS aN ns nss : Int} (M : Means b1 b2 b3 b4 m c rS rL tS tN aS aN ns nss) (p : Plc) (L post : List Nat) (hL : L = recd b1 b2 b3 b4 m ++ post) :
    Got L c p (recd b1 b2 b3 b4 m).length ⟨tS, rL, rS, nss, ns⟩ ⟨rS, rL, tS, tN, aS, aN, flg b1 b2 b3 b4⟩ := by
  obtain ⟨i1, ia, i2, i3, ib, W⟩ := whole_of b1 b2 b3 b4 m M.ok L post hL
  have hpos : 0 < L.length := by have := W.le; have := rec_pos b1 b2 b3 b4 m; omega
  have hf := rec_head b1 b2 b3 b4 m L post hL
  refine .inr ⟨hpos, (flg b1 b2 b3 b4 : Int), rS, ns, nss, tN, aS, aN, i1, i2, i3, (recd b1 b2 b3 b4 m).length, by rw [hf], ?_, ?_, ?_, ?_, ?_, ?_, ?_⟩
  · unfold rd1
    by_cases hb : b1 = false
    · rw [if_pos ((flg64 b1 b2 b3 b4).2 hb), (W.r1 hb).1, M.s']
    · have hb' : b1 = true := by simpa using hb
      rw [if_neg (fun h => hb ((flg64 b1 b2 b3 b4).1 h)), M.s hb', W.r1' hb']
  · unfold rd2
    by_cases hb : b2 = false
    · obtain ⟨e1, e2, _⟩ := W.r2 hb
      rw [if_pos ((flg128 b1 b2 b3 b4).2 hb), e1]
      simp only
      rw [e2, M.st'.1]
      simp only
      rw [M.st'.2]
    · have hb' : b2 = true := by simpa using hb
      rw [if_neg (fun h => hb ((flg128 b1 b2 b3 b4).1 h)), (M.st hb').1, (M.st hb').2, W.r2' hb']
  · unfold rd3
    by_cases hb : b3 = false
    · rw [if_pos ((flg8 b1 b2 b3 b4).2 hb), (W.r3 hb).1, M.t]
    · have hb' : b3 = true := by simpa using hb
      rw [if_neg (fun h => hb ((flg8 b1 b2 b3 b4).1 h)), (M.whole hb').1, W.r3' hb']
  · unfold rd4
    rw [M.sec]
    by_cases hd : b4 = false
    · rw [if_pos ((flg4 b1 b2 b3 b4).2 hd), (M.late hd).1, (M.late hd).2, W.r4' hd]
    · have hd' : b4 = true := by simpa using hd
      obtain ⟨e1, _, e2, e3⟩ := W.r4 hd'
      rw [if_neg (fun h => hd ((flg4 b1 b2 b3 b4).1 h)), e1]
      simp only
      rw [M.d]
      unfold rd3
      by_cases hb : b3 = false
      · rw [if_pos ((flg8 b1 b2 b3 b4).2 hb), (e2 hb).1, M.u]
      · have hb' : b3 = true := by simpa using hb
        rw [if_neg (fun h => hb ((flg8 b1 b2 b3 b4).1 h)), (M.whole hb').2, e3 hb']
  · intro _; rw [M.sec, M.line]; exact ⟨rfl, rfl⟩
  · intro h; exact absurd W.le h
  · rw [M.sec, M.line]

/-- a place of the whole reading, and the place where the reading of a cut stands in its stead -/
def Stands (k i i' : Nat) : Prop := (i' = i ∧ i ≤ k) ∨ (i' = k + 1 ∧ k < i)

theorem stands_next {E : List Nat} {k i i' v j : Nat} (h : Stands k i i') (hu : uvar E i = (v, j)) (hij : i < j) (hj : j ≤ E.length) (hk : k ≤ E.length) : Stands k j (uvar (E.take k) i').2 := by
  have hT : (E.take k).length = k := by simp; omega
  rcases h with ⟨rfl, hi⟩ | ⟨rfl, hi⟩
  · obtain ⟨q, hq, hqj⟩ : ∃ q, dec E 10 i' = some q ∧ q.2 = j := by
      unfold uvar at hu
      cases hd : dec E 10 i' with
      | none => rw [hd] at hu; simp [ans] at hu; omega
      | some q => rw [hd] at hu; simp [ans] at hu; exact ⟨q, rfl, hu.2⟩
    have ht := dec_take E k 10 i' q hq
    unfold uvar
    rw [ht, hqj]
    by_cases hjk : j ≤ k
    · rw [if_pos hjk]; exact .inl ⟨hqj, hjk⟩
    · rw [if_neg hjk]; exact .inr ⟨by simp [ans]; omega, by omega⟩
  · rw [uvar_past _ _ (by omega)]
    exact .inr ⟨by simp; omega, by omega⟩

theorem got_cut {b1 b2 b3 b4 : Bool} {m : Nums} (hm : m.Ok) (c : Cod) (p : Plc) (k : Nat) (hk : k < (recd b1 b2 b3 b4 m).length) :
    ∃ ss st p', Got ((recd b1 b2 b3 b4 m).take k) c p 0 ⟨c.sec, c.line, c.series, ss, st⟩ p' ∧ (b2 = true → ss = c.secStep ∧ st = c.step) := by
  by_cases h0 : k = 0
  · subst h0
    exact ⟨c.secStep, c.step, p, .inl ⟨by simp, rfl, rfl, rfl⟩, fun _ => ⟨rfl, rfl⟩⟩
  obtain ⟨i1, ia, i2, i3, ib, W⟩ := whole_of b1 b2 b3 b4 m hm _ [] (List.append_nil _).symm
  have hT : ((recd b1 b2 b3 b4 m).take k).length = k := by simp; omega
  have hf : gb ((recd b1 b2 b3 b4 m).take k) 0 = flg b1 b2 b3 b4 := by
    obtain ⟨k', rfl⟩ : ∃ k', k = k' + 1 := ⟨k - 1, by omega⟩
    rw [recd]; rfl
  have hle := W.le
  generalize hN : (recd b1 b2 b3 b4 m).length = N at *
  generalize hE : recd b1 b2 b3 b4 m = E at *
  have hkE : k ≤ E.length := by omega
  have o12 : i1 ≤ i2 := by
    by_cases hb : b2 = false
    · have := W.r2 hb; omega
    · have := W.r2' (by simpa using hb); omega
  have o23 : i2 ≤ i3 := by
    by_cases hb : b3 = false
    · have := W.r3 hb; omega
    · have := W.r3' (by simpa using hb); omega
  have o34 : i3 ≤ N := by
    by_cases hd : b4 = false
    · have := W.r4' hd; omega
    · have h4 := W.r4 (by simpa using hd)
      by_cases hb : b3 = false
      · have := h4.2.2.1 hb; omega
      · have := h4.2.2.2 (by simpa using hb); omega
  have g1 : Stands k i1 (rd1 (E.take k) (flg b1 b2 b3 b4) c.series).2 := by
    unfold rd1
    by_cases hb : b1 = false
    · rw [if_pos ((flg64 b1 b2 b3 b4).2 hb)]
      obtain ⟨e1, e2⟩ := W.r1 hb
      exact stands_next (.inl ⟨rfl, by omega⟩) e1 e2 (by omega) hkE
    · rw [if_neg (fun h => hb ((flg64 b1 b2 b3 b4).1 h)), W.r1' (by simpa using hb)]
      exact .inl ⟨rfl, by omega⟩
  generalize hrd1 : rd1 (E.take k) (flg b1 b2 b3 b4) c.series = x1 at g1
  have g2 : Stands k i2 (rd2 (E.take k) (flg b1 b2 b3 b4) c.step c.secStep x1.2).2.2 := by
    unfold rd2
    by_cases hb : b2 = false
    · rw [if_pos ((flg128 b1 b2 b3 b4).2 hb)]
      obtain ⟨e1, e2, e3, e4⟩ := W.r2 hb
      exact stands_next (stands_next g1 e1 e3 (by omega) hkE) e2 e4 (by omega) hkE
    · rw [if_neg (fun h => hb ((flg128 b1 b2 b3 b4).1 h)), W.r2' (by simpa using hb)]
      exact g1
  have g2b : b2 = true → (rd2 (E.take k) (flg b1 b2 b3 b4) c.step c.secStep x1.2).1 = c.step ∧ (rd2 (E.take k) (flg b1 b2 b3 b4) c.step c.secStep x1.2).2.1 = c.secStep := by
    intro hb
    unfold rd2
    rw [if_neg (fun h => by have := (flg128 b1 b2 b3 b4).1 h; simp [hb] at this)]
    exact ⟨rfl, rfl⟩
  generalize hrd2 : rd2 (E.take k) (flg b1 b2 b3 b4) c.step c.secStep x1.2 = x2 at g2 g2b
  have g3 : Stands k i3 (rd3 (E.take k) (flg b1 b2 b3 b4) x2.2.2).2 := by
    unfold rd3
    by_cases hb : b3 = false
    · rw [if_pos ((flg8 b1 b2 b3 b4).2 hb)]
      obtain ⟨e1, e2⟩ := W.r3 hb
      exact stands_next g2 e1 e2 (by omega) hkE
    · rw [if_neg (fun h => hb ((flg8 b1 b2 b3 b4).1 h)), W.r3' (by simpa using hb)]
      exact g2
  generalize hrd3 : rd3 (E.take k) (flg b1 b2 b3 b4) x2.2.2 = x3 at g3
  have g4 : Stands k N (rd4 (E.take k) (flg b1 b2 b3 b4) (wrap64 (c.sec + x2.2.1)) x3.1 x3.2).2.2 := by
    unfold rd4
    by_cases hd : b4 = false
    · rw [if_pos ((flg4 b1 b2 b3 b4).2 hd), W.r4' hd]
      exact g3
    · obtain ⟨e1, e2, e3, e4⟩ := W.r4 (by simpa using hd)
      rw [if_neg (fun h => hd ((flg4 b1 b2 b3 b4).1 h))]
      unfold rd3
      by_cases hb : b3 = false
      · rw [if_pos ((flg8 b1 b2 b3 b4).2 hb)]
        obtain ⟨e5, e6⟩ := e3 hb
        exact stands_next (stands_next g3 e1 e2 (by omega) hkE) e5 e6 (by omega) hkE
      · rw [if_neg (fun h => hb ((flg8 b1 b2 b3 b4).1 h)), e4 (by simpa using hb)]
        exact stands_next g3 e1 e2 (by have := e4 (by simpa using hb); omega) hkE
  generalize hrd4 : rd4 (E.take k) (flg b1 b2 b3 b4) (wrap64 (c.sec + x2.2.1)) x3.1 x3.2 = x4 at g4
  have hi4 : ¬ x4.2.2 ≤ (E.take k).length := by rw [hT]; rcases g4 with h | h <;> omega
  refine ⟨x2.2.1, x2.1, _, .inr ⟨by omega, (flg b1 b2 b3 b4 : Int), x1.1, x2.1, x2.2.1, x3.1, x4.1, x4.2.1, x1.2, x2.2.2, x3.2, x4.2.2, by rw [hf], hrd1.symm, hrd2.symm, hrd3.symm, hrd4.symm, fun h => absurd h hi4, fun _ => ⟨rfl, rfl⟩, rfl⟩, fun hb => ⟨(g2b hb).2, (g2b hb).1⟩⟩
end Go.Proofs.Qxb6000182a
