import Derived.Test.Qxb6000095aMem
import Derived.Test.Qxb6000095aBase
import Derived.Maps.OwnSet
/-! A map[string]int32 of the call's own, said as a function on strings. -/
namespace Go.Proofs.Qxb6000095a
open Go.RowKit Go.WideMaps Go.MapKept Go.ChangeMaps
set_option linter.unusedSimpArgs false
set_option linter.unusedVariables false

/-- Block b is a map of c entries that holds just what f says. -/
def SMap (w : World) (b c : Nat) (f : ByteArray → Option Int) : Prop :=
  ∃ D : DataW Unit, w.ownsMap Try.prog 9 (plainElem Try.prog 21) b c D ∧ Maps.size D = c ∧ (∀ s : ByteArray, Maps.has D (.string s.data.toList) = (f s).isSome) ∧
    ∀ (s : ByteArray) v, f s = some v → D.atKey (.string s.data.toList) (.lit (.int .i32 0)) = .lit (.int .i32 v)

def upd (f : ByteArray → Option Int) (s : ByteArray) (v : Int) : ByteArray → Option Int := fun t => if t = s then some v else f t

theorem data_inj {s t : ByteArray} (h : s.data.toList = t.data.toList) : s = t := by
  cases s; cases t; simp at h; simp [h]

theorem law9 : Maps.Keyed Try.prog 9 := Maps.string_keyed Try.underlying9
theorem key9 {s : ByteArray} (h : s.size ≤ maxLen) : keyOf Try.prog 9 (.string s) = some (.string s.data.toList) := keyOf_string_mk Try.underlying9 h
theorem zero21 (w : World) : (zeroValue 21).run Try.prog w = .ok (.int .i32 0) w := by kernel_rfl

theorem wf_i32 {n : Int} (h0 : -2147483648 ≤ n) (h1 : n ≤ 2147483647) : (Lit.int .i32 n).wf = true := by
  have e0 : IntKind.i32.min = -2147483648 := by decide
  have e1 : IntKind.i32.max = 2147483647 := by decide
  simp [Lit.wf, e0, e1, h0, h1]

theorem SMap.made {w : World} {b : Nat} (h : w.heap[b]? = some (.map #[] 0)) : SMap w b 0 (fun _ => none) := by
  refine ⟨.map [], ⟨#[], 0, h, ⟨by simp, stamped_empty 0, by simp⟩, Nat.le_refl _, rfl⟩, rfl, fun s => rfl, fun s v hv => by cases hv⟩

theorem SMap.chg {w w' : World} {b c : Nat} {f : ByteArray → Option Int} (h : SMap w b c f) {S : Nat → Prop} (hc : Chg w w' S) (hS : ¬ S b) : SMap w' b c f := by
  obtain ⟨D, ⟨es, clock, hb, r⟩, h2⟩ := h
  exact ⟨D, ⟨es, clock, hc.heap hb hS, r⟩, h2⟩

theorem SMap.lt {w : World} {b c : Nat} {f : ByteArray → Option Int} (h : SMap w b c f) : b < w.heap.size := by
  obtain ⟨D, h1, _⟩ := h
  exact h1.lt

/-- 'v, ok := m[s]' -/
theorem SMap.look {w : World} {b c : Nat} {f : ByteArray → Option Int} (h : SMap w b c f) {s : ByteArray} (hs : s.size ≤ maxLen) :
    (Instr.lookup 27 (.map (some b)) (.string s) true).run Try.prog w = .ok (.tuple #[.int .i32 ((f s).getD 0), .bool (f s).isSome]) w := by
  obtain ⟨D, h1, _, h3, h4⟩ := h
  obtain ⟨v, ps, hrun, hv⟩ := h1.look_ok law9 Try.underlying27 (zero21 w) (plainElem_int (H := Unit) Try.underlying21 (a := 0) (by decide)) (key9 hs)
  obtain ⟨a, rfl, ha, _⟩ := plainElem_int_inv Try.underlying21 hv
  simp only [Prod.mk.injEq] at ha
  rw [h3 s] at hrun
  rw [hrun]
  have : a = (f s).getD 0 := by
    cases hf : f s with
    | none =>
      rw [Maps.atKey_of_not_has (by rw [h3 s, hf]; rfl)] at ha
      have := ha.1
      simp at this
      simp [this]
    | some v =>
      rw [h4 s v hf] at ha
      have := ha.1
      simp at this
      simp [this]
  rw [this]

/-- 'm[s] = v' -/
theorem SMap.store {w : World} {b c : Nat} {f : ByteArray → Option Int} (h : SMap w b c f) {s : ByteArray} (hs : s.size ≤ maxLen) {v : Int} (hv : (Lit.int .i32 v).wf = true) (hc : c < maxLen) :
    ∃ w', (Instr.mapUpdate 27 (.map (some b)) (.string s) (.int .i32 v)).run Try.prog w = .ok () w' ∧ SMap w' b (if (f s).isSome then c else c + 1) (upd f s v) ∧ w.grownBy w' (some b) := by
  obtain ⟨D, h1, h2, h3, h4⟩ := h
  obtain ⟨w', hrun, ho, hg⟩ := h1.update law9 Try.underlying27 hc (key9 hs) (plainElem_int (H := Unit) Try.underlying21 hv)
  have hkl : WideAt.IsKeyLit (Lit.string s.data.toList) := by trivial
  have hsz : Maps.size (D.put (.string s.data.toList) (.lit (.int .i32 v))) = if (f s).isSome then c else c + 1 := by
    rw [Maps.size_put (h1.tidy law9), h3 s, h2]
  refine ⟨w', hrun, ⟨_, ?_, hsz, ?_, ?_⟩, hg⟩
  · obtain ⟨es, clock, hb, F, hn, hD⟩ := ho
    refine ⟨es, clock, hb, F, ?_, hD⟩
    rw [← hsz, hD]
    simp [Maps.size, length_sorted]
  · intro t
    by_cases e : t = s
    · subst e
      rw [Maps.has_put_same h1.isMap hkl]; simp [upd]
    · rw [Maps.has_put_other (fun h => e (data_inj (by simpa using h))), h3 t]; simp [upd, e]
  · intro t u hu
    by_cases e : t = s
    · subst e
      simp [upd] at hu
      rw [Maps.atKey_put_same h1.isMap hkl, hu]
    · simp [upd, e] at hu
      rw [Maps.atKey_put_other (fun h => e (data_inj (by simpa using h))), h4 t u hu]

/-- 'len(m)' -/
theorem SMap.len {w : World} {b c : Nat} {f : ByteArray → Option Int} (h : SMap w b c f) (ty : TypeId) : (Builtin.len_ #[27] ty #[.map (some b)]).run Try.prog w = .ok (.int .i64 c) w := by
  obtain ⟨D, h1, h2, _⟩ := h
  rw [h1.len Try.underlying27 ty, h2]

/-- 'm[s] = v' at the operation, for the walk -/
theorem wpList_smap_store (w : World) {ops : Array Oper} {rest : List Oper} {o : Oper} {a : Act} {Q : Exit → Act → World → Prop}
    (hg : o.guard = none) (m x y : Operand) (hop : o.op = Op.mapUpdate 27 m x y) (b c : Nat) (f : ByteArray → Option Int) (hm : a.eval m = .map (some b)) (h : SMap w b c f) (hc : c < maxLen)
    (s : ByteArray) (hs : s.size ≤ maxLen) (v : Int) (hx : a.eval x = .string s) (hy : a.eval y = .int .i32 v) (hv : (Lit.int .i32 v).wf = true)
    (c' : Nat) (hcc : (if (f s).isSome then c else c + 1) = c') (hK : ∀ w', SMap w' b c' (upd f s v) → w.grownBy w' (some b) → wpList Try.prog ops Q rest (a.put o.dst undef) w') :
    wpList Try.prog ops Q (o :: rest) a w := by
  refine wpList_plain hg fun K' hK' => ?_
  obtain ⟨w', hrun, r1, r2⟩ := h.store hs hv hc
  rw [hcc] at r1
  unfold Oper.wp
  simp [execOp, hop, hm, hx, hy, hrun, Result.andThen]
  exact hK' _ _ (hK w' r1 r2)

end Go.Proofs.Qxb6000095a
