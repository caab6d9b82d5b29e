import Derived.Test.Qxb6000095aCalls
namespace Go.Proofs.Qxb6000095a
open Go.RowKit
set_option linter.unusedSimpArgs false
set_option linter.unusedVariables false

/-- ZZB1Count -/
theorem f17_any (w : World) (G : Nat) (f vm ct tx tm la : Value) (hG : w.heap[G]? = some (.cells #[f, vm, ct, tx, tm, la] 61 (0, 0))) :
    Calls Try.prog 17 #[.pointer (some ⟨G, 0, none⟩)] w fun e w' => e = .returned ct ∧ w' = w := by
  have c2 : w.cell? ⟨G, 2, none⟩ = some ct := cell_of_block hG 2
  clear hG
  go_enter Try.func17, Try.ntmps17
  go_wp2
  go_ret
  exact ⟨rfl, rfl⟩

/-- ZZB1Chunks -/
theorem f19_any (w : World) (base G n : Nat) (f vm ct tx tm la : Value) (cbs : List Nat) (L Y T N : Nat → Int) (M : Marks w base G vm cbs n L Y T N)
    (hG : w.heap[G]? = some (.cells #[f, vm, ct, tx, tm, la] 61 (0, 0))) :
    Calls Try.prog 19 #[.pointer (some ⟨G, 0, none⟩)] w fun e w' => e = .returned (.int .i64 (cbs.length : Int)) ∧ w' = w := by
  obtain ⟨a, c, hv⟩ : ∃ a c, vm = .slice a cbs.length c := by
    rcases M.row.2 with ⟨h, h'⟩ | ⟨g, c, cur, h, _⟩
    · exact ⟨none, 0, by rw [h, h']⟩
    · exact ⟨_, _, h⟩
  have c1 : w.cell? ⟨G, 1, none⟩ = some (.slice a cbs.length c) := (cell_of_block hG 1).trans (by rw [hv]; rfl)
  clear hG M hv
  go_enter Try.func19, Try.ntmps19
  go_wp2
  go_ret
  exact ⟨rfl, rfl⟩

/-- ZZB1ChunkLen -/
theorem f20_any (w : World) (base G n k : Nat) (f vm ct tx tm la : Value) (cbs : List Nat) (L Y T N : Nat → Int) (M : Marks w base G vm cbs n L Y T N) (hk : k < cbs.length)
    (hG : w.heap[G]? = some (.cells #[f, vm, ct, tx, tm, la] 61 (0, 0))) :
    Calls Try.prog 20 #[.pointer (some ⟨G, 0, none⟩), .int .i64 (k : Int)] w fun e w' => e = .returned (.int .i64 (cl n k : Int)) ∧ w' = w := by
  obtain ⟨g, cap, rfl, hb, hg⟩ := M.row.form (by omega)
  have c1 : w.cell? ⟨G, 1, none⟩ = some (.slice (some ⟨g, 0, none⟩) cbs.length cap) := cell_of_block hG 1
  have c2 : w.cell? ⟨g, k, none⟩ = some (.slice (some ⟨cbs.getD k 0, 0, none⟩) (cl n k) 4096) := by
    have := M.row.cells (g := g) rfl k _ (rowOf_get hk)
    rwa [Addr.add_lit, Nat.zero_add] at this
  generalize cbs.getD k 0 = c at *
  generalize cl n k = r at *
  have p1 : (0 : Int) ≤ (k : Int) := by omega
  have p2 : (k : Int) < (cbs.length : Int) := by omega
  clear hG M hb hg
  go_enter Try.func20, Try.ntmps20
  go_wp2
  go_ret
  exact ⟨rfl, rfl⟩

/-- ZZB1MarkAt -/
theorem f18_any (w : World) (base G n i : Nat) (f vm ct tx tm la : Value) (cbs : List Nat) (L Y T N : Nat → Int) (M : Marks w base G vm cbs n L Y T N) (hn : n ≤ 32768) (hi : i < n)
    (hG : w.heap[G]? = some (.cells #[f, vm, ct, tx, tm, la] 61 (0, 0))) :
    Calls Try.prog 18 #[.pointer (some ⟨G, 0, none⟩), .int .i32 (i : Int)] w fun e w' => e = .returned (.tuple #[.int .i32 (L i), .int .i16 (Y i), .int .i32 (T i), .int .i32 (N i)]) ∧ ∃ m, w' = w.drewN m := by
  have H := hide (f31_marks w base G n i f vm ct tx tm la cbs L Y T N M hn hi hG)
  have cnt := M.cnt
  obtain ⟨cur, h1, h2, h3⟩ := M.blk (i / 4096) (by omega)
  obtain ⟨q0, q1, q2, q3⟩ := h3 (i % 4096) (by unfold cl; omega)
  rw [show 4096 * (i / 4096) + i % 4096 = i by omega] at q0 q1 q2 q3
  have e0 := (cell_of_block h1 _).trans q0
  have e1 := (cell_of_block h1 _).trans q1
  have e2 := (cell_of_block h1 _).trans q2
  have e3 := (cell_of_block h1 _).trans q3
  clear q0 q1 q2 q3 h1 h2 h3 M hG cnt
  generalize cbs.getD (i / 4096) 0 = c at *
  generalize i % 4096 * 4 = o at *
  go_enter Try.func18, Try.ntmps18
  go_wp2_with fail
  refine H.out.mono ?_
  rintro e w' ⟨rfl, hw⟩
  subst hw
  go_wp2_with fail
  go_quiet (fail)
  go_wp2
  exact bodyPost_ret (v := .tuple #[.int .i32 (L i), .int .i16 (Y i), .int .i32 (T i), .int .i32 (N i)]) (by simp [results, Try.results18, go_sem]) rfl ⟨rfl, _, rfl⟩

end Go.Proofs.Qxb6000095a
