import Derived.Test.Qxb6000095aClone
import Derived.Test.Qxb6000095aMem
/-! What comes in ([]MarkRow), its clone, and a fresh Grades, each said over a world that is a letter. -/
namespace Go.Proofs.Qxb6000095a
open Go.RowKit
set_option linter.unusedSimpArgs false
set_option linter.unusedVariables false

/-- a []MarkRow that came in -/
def IsRows (w : World) (a : Option Addr) (len cap : Nat) (L Y T N : Nat → Int) : Prop :=
  (a = none ∧ len = 0 ∧ cap = 0) ∨ ∃ x : Addr, a = some x ∧ len ≤ cap ∧ cap ≤ maxLen ∧ ∀ i, i < len →
    w.cell? (x.add (i * 4)) = some (.int .i32 (L i)) ∧ w.cell? (x.add (i * 4 + 1)) = some (.int .i16 (Y i)) ∧ w.cell? (x.add (i * 4 + 2)) = some (.int .i32 (T i)) ∧ w.cell? (x.add (i * 4 + 3)) = some (.int .i32 (N i))

/-- a []MarkRow of the call's own -/
def Rowed (w : World) (ar : Option Addr) (R n : Nat) (L Y T N : Nat → Int) : Prop :=
  0 < n → ar = some ⟨R, 0, none⟩ ∧ ∃ cur, w.heap[R]? = some (.cells cur 45 (0, 0)) ∧ ∀ i, i < n → cur[i * 4]? = some (.int .i32 (L i)) ∧ cur[i * 4 + 1]? = some (.int .i16 (Y i)) ∧ cur[i * 4 + 2]? = some (.int .i32 (T i)) ∧ cur[i * 4 + 3]? = some (.int .i32 (N i))

theorem f16_all (w : World) (a : Option Addr) (len cap : Nat) (L Y T N : Nat → Int) (h : IsRows w a len cap L Y T N) (hlen : len ≤ 32768) :
    Calls Try.prog 16 #[.slice a len cap] w fun e w' => ∃ ar R, e = .returned (.slice ar len len) ∧ Rowed w' ar R len L Y T N ∧ w.heap.size ≤ R ∧ Chg w w' (fun _ => False) := by
  rcases h with ⟨rfl, rfl, rfl⟩ | ⟨x, rfl, hl, hm, hc⟩
  · refine (f16_nil w).mono ?_
    rintro e w' ⟨rfl, rfl⟩
    exact ⟨none, w'.heap.size, rfl, fun h => absurd h (Nat.lt_irrefl _), Nat.le_refl _, Chg.refl _ _⟩
  · by_cases h0 : len = 0
    · subst h0
      refine (f16_zero x cap w).mono ?_
      rintro e w' ⟨rfl, rfl⟩
      exact ⟨_, w.heap.size, rfl, fun h => absurd h (Nat.lt_irrefl _), Nat.le_refl _, Chg.ofAlloc _ _ _⟩
    · obtain ⟨b, off, spot⟩ := x
      have hspot : spot = none := by simpa [Addr.add] using World.cell?_spot (hc 0 (by omega)).1
      subst hspot
      simp only [Addr.add_lit, ← Nat.add_assoc] at hc
      refine (f16_some b off len cap L Y T N w hlen (by omega) (fun i hi => (hc i hi).1) (fun i hi => (hc i hi).2.1) (fun i hi => (hc i hi).2.2.1) (fun i hi => (hc i hi).2.2.2)).mono ?_
      rintro e w' ⟨rfl, cur, rfl, hs, hcur⟩
      exact ⟨_, w.heap.size, rfl, fun _ => ⟨rfl, cur, heap_new _ rfl, hcur⟩, Nat.le_refl _, Chg.ofAlloc _ _ _⟩

theorem f10_abs (w : World) : Calls Try.prog 10 #[] w fun e w' => ∃ G F T, e = .returned (.pointer (some ⟨G, 0, none⟩)) ∧
    w'.heap[G]? = some (.cells #[.map (some F), .slice none 0 0, .int .i32 0, .slice none 0 0, .map (some T), .int .i64 0] 61 (0, 0)) ∧ w'.heap[F]? = some (.map #[] 0) ∧ w'.heap[T]? = some (.map #[] 0) ∧
    w.heap.size ≤ G ∧ w.heap.size ≤ F ∧ w.heap.size ≤ T ∧ F ≠ T ∧ F ≠ G ∧ T ≠ G ∧ Chg w w' (fun _ => False) := by
  refine (f10_any w).mono ?_
  rintro e w' ⟨rfl, rfl⟩
  exact ⟨_, _, _, rfl, heap_new _ (by simp), heap_old _ (heap_old _ (heap_new _ rfl)), heap_old _ (heap_new _ (by simp)), by omega, by omega, by omega, by omega, by omega, by omega, ((Chg.ofAlloc _ _ _).alloc _).alloc _⟩

theorem Rowed.chg {w w' : World} {ar : Option Addr} {R n : Nat} {L Y T N : Nat → Int} (h : Rowed w ar R n L Y T N) {S : Nat → Prop} (hc : Chg w w' S) (hS : ¬ S R) : Rowed w' ar R n L Y T N := by
  intro hn
  obtain ⟨h1, cur, h2, h3⟩ := h hn
  exact ⟨h1, cur, hc.heap h2 hS, h3⟩

end Go.Proofs.Qxb6000095a
