import Derived.Test.Qxb6000095aMarks
namespace Go.Proofs.Qxb6000095a
open Go.RowKit
set_option linter.unusedSimpArgs false
set_option linter.unusedVariables false

/-- ZZB1Add -/
theorem f13_marks (w : World) (base G n : Nat) (f vm tx tm la : Value) (cbs : List Nat) (L Y T N : Nat → Int) (M : Marks w base G vm cbs n L Y T N) (hbase : base ≤ w.heap.size) (hn : n ≤ 32768)
    (hG : w.heap[G]? = some (.cells #[f, vm, .int .i32 (n : Int), tx, tm, la] 61 (0, 0))) :
    Calls Try.prog 13 #[.pointer (some ⟨G, 0, none⟩), .int .i32 (L n), .int .i16 (Y n), .int .i32 (T n), .int .i32 (N n)] w fun e w' => e = .returned (.tuple #[]) ∧
      ∃ vm' cbs', Added w w' base G f vm tx tm la cbs n L Y T N vm' cbs' := by
  have H := hide (f30_marks w base G n f vm tx tm la cbs L Y T N M hbase hn hG)
  clear hG hn hbase M
  go_enter Try.func13, Try.ntmps13
  go_wp2_with fail
  refine H.out.mono ?_
  rintro e w' ⟨rfl, h⟩
  go_wp2
  go_end0
  exact ⟨rfl, h⟩

/-- the cells that mark(i) goes through -/
theorem Marks.spot {w : World} {base G : Nat} {f vm tx tm la ct : Value} {cbs : List Nat} {n : Nat} {L Y T N : Nat → Int} (M : Marks w base G vm cbs n L Y T N)
    (hG : w.heap[G]? = some (.cells #[f, vm, ct, tx, tm, la] 61 (0, 0))) {i : Nat} (hi : i < n) :
    ∃ g cap, w.cell? ⟨G, 1, none⟩ = some (.slice (some ⟨g, 0, none⟩) cbs.length cap) ∧ i / 4096 < cbs.length ∧ w.cell? ⟨g, i / 4096, none⟩ = some (.slice (some ⟨cbs.getD (i / 4096) 0, 0, none⟩) (cl n (i / 4096)) 4096) ∧ i % 4096 < cl n (i / 4096) := by
  have cnt := M.cnt
  have hlt : i / 4096 < cbs.length := by omega
  obtain ⟨g, cap, rfl, hb, hg⟩ := M.row.form (by omega)
  refine ⟨g, cap, cell_of_block hG 1, hlt, ?_, by unfold cl; omega⟩
  have := M.row.cells (g := g) rfl (i / 4096) _ (rowOf_get hlt)
  rwa [Addr.add_lit, Nat.zero_add] at this

theorem f31_marks (w : World) (base G n i : Nat) (f vm ct tx tm la : Value) (cbs : List Nat) (L Y T N : Nat → Int) (M : Marks w base G vm cbs n L Y T N) (hn : n ≤ 32768) (hi : i < n)
    (hG : w.heap[G]? = some (.cells #[f, vm, ct, tx, tm, la] 61 (0, 0))) :
    Calls Try.prog 31 #[.pointer (some ⟨G, 0, none⟩), .int .i32 (i : Int)] w fun e w' => e = .returned (.pointer (some ⟨cbs.getD (i / 4096) 0, i % 4096 * 4, none⟩)) ∧ w' = w := by
  obtain ⟨g, cap, h1, h2, h3, h4⟩ := M.spot hG hi
  exact f31_any w G g cbs.length cap i _ _ h1 (by omega) h2 h3 h4

/-- ZZB1MarkPtr -/
theorem f22_marks (w : World) (base G n i : Nat) (f vm ct tx tm la : Value) (cbs : List Nat) (L Y T N : Nat → Int) (M : Marks w base G vm cbs n L Y T N) (hn : n ≤ 32768) (hi : i < n)
    (hG : w.heap[G]? = some (.cells #[f, vm, ct, tx, tm, la] 61 (0, 0))) :
    Calls Try.prog 22 #[.pointer (some ⟨G, 0, none⟩), .int .i32 (i : Int)] w fun e w' => e = .returned (.pointer (some ⟨cbs.getD (i / 4096) 0, i % 4096 * 4, none⟩)) ∧ w' = w := by
  have H := hide (f31_marks w base G n i f vm ct tx tm la cbs L Y T N M hn hi hG)
  clear hG hn hi M
  go_enter Try.func22, Try.ntmps22
  go_wp2_with fail
  refine H.out.mono ?_
  rintro e w' ⟨rfl, rfl⟩
  go_wp2
  go_ret
  exact ⟨rfl, rfl⟩

end Go.Proofs.Qxb6000095a
