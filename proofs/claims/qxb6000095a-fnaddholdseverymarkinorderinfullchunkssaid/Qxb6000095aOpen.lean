import Derived.Test.Qxb6000095aHead
import Derived.Deep.SlicePairs
/-! A []MarkRow that came in, opened. -/
namespace Go.Proofs.Qxb6000095a
open Go.ChangeShapes Go.WideShapes Go.Deep
set_option linter.unusedSimpArgs false
set_option linter.unusedVariables false

theorem cells45 : Try.prog.cellsOf 45 = 4 := by kernel_rfl
theorem cells21 : Try.prog.cellsOf 21 = 1 := by kernel_rfl
theorem cells31 : Try.prog.cellsOf 31 = 1 := by kernel_rfl

theorem open_rows {H : Type} {enc : TypeId × Value → H} {w : World} {base : Nat} {spare : Nat → Bool} {held : Bool} {fuel : Nat} {a : Option Addr} {len cap : Nat} {x : DataW H × List MemPlace}
    (h : DataW.trod enc Try.prog w base spare held fuel 41 [.slice a len cap] = some x) : ∃ L Y T N, IsRows w a len cap L Y T N := by
  rcases open_slice Try.underlying41 h with ⟨hcs, _⟩ | ⟨ad, l, c, m, n, D, Pl, hcs, _, hl, hm, hmm, _, hx⟩
  · simp at hcs
    obtain ⟨rfl, rfl, rfl⟩ := hcs
    exact ⟨fun _ => 0, fun _ => 0, fun _ => 0, fun _ => 0, .inl ⟨rfl, rfl, rfl⟩⟩
  · simp at hcs
    obtain ⟨rfl, rfl, rfl⟩ := hcs
    have hlm : len ≤ m := by rw [hmm]; split <;> omega
    have each : ∀ i, i < len → ∃ q : Int × Int × Int × Int, w.cell? (ad.add (i * 4)) = some (.int .i32 q.1) ∧ w.cell? (ad.add (i * 4 + 1)) = some (.int .i16 q.2.1) ∧ w.cell? (ad.add (i * 4 + 2)) = some (.int .i32 q.2.2.1) ∧ w.cell? (ad.add (i * 4 + 3)) = some (.int .i32 q.2.2.2) := by
      intro i hi
      obtain ⟨cs', h1, h2⟩ := hx i (by omega)
      rw [cells45] at h1
      obtain ⟨_, hlen, hcell⟩ := World.cells?_some h1
      obtain ⟨xs, k, _, _, _, hxl, hf⟩ := DataW.trod_struct Try.underlying45 h2
      match xs, hxl, cs', hlen with
      | [y0, y1, y2, y3], _, [v0, v1, v2, v3], _ =>
        have g0 := hf 0 _ rfl
        have g1 := hf 1 _ rfl
        have g2 := hf 2 _ rfl
        have g3 := hf 3 _ rfl
        simp [cells21, cells31] at g0 g1 g2 g3
        obtain ⟨l0, e0, _⟩ := DataW.trod_int Try.underlying21 g0
        obtain ⟨l1, e1, _⟩ := DataW.trod_int Try.underlying31 g1
        obtain ⟨l2, e2, _⟩ := DataW.trod_int Try.underlying21 g2
        obtain ⟨l3, e3, _⟩ := DataW.trod_int Try.underlying21 g3
        simp at e0 e1 e2 e3
        subst e0 e1 e2 e3
        have c0 := hcell 0 (by omega)
        have c1 := hcell 1 (by omega)
        have c2 := hcell 2 (by omega)
        have c3 := hcell 3 (by omega)
        rw [add_add] at c0 c1 c2 c3
        exact ⟨(l0, l1, l2, l3), by simpa using c0, by simpa using c1, by simpa using c2, by simpa using c3⟩
    obtain ⟨q, hq⟩ := choose_lt each
    exact ⟨fun i => (q i).1, fun i => (q i).2.1, fun i => (q i).2.2.1, fun i => (q i).2.2.2, .inr ⟨ad, rfl, hl, hm, hq⟩⟩

end Go.Proofs.Qxb6000095a
