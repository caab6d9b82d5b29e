import Derived.WalkKit
import Derived.Deep.RegionLaw
import Derived.Deep.AppendLies
import Derived.Deep.QuietTactic
/-! Plain facts on worlds: what has changed (Chg), and an append into a row with room as a step of a region. -/
namespace Go.Proofs.Qxb6000182a
open Go.RowKit

theorem hide {p : Prop} (h : p) : Hid p := h

/-- Nothing of w has changed in w' but the blocks that S names, and new blocks. -/
structure Chg (w w' : World) (S : Nat → Prop) : Prop where
  os : w'.os = w.os
  tape : w'.tape = w.tape
  output : w'.output = w.output
  size : w.heap.size ≤ w'.heap.size
  block : ∀ k, k < w.heap.size → ¬ S k → w'.heap[k]? = w.heap[k]?

theorem Chg.refl (w : World) (S : Nat → Prop) : Chg w w S := ⟨rfl, rfl, rfl, Nat.le_refl _, fun _ _ _ => rfl⟩
theorem Chg.trans {a b c : World} {S S' S'' : Nat → Prop} (h : Chg a b S) (h' : Chg b c S') (h1 : ∀ k, k < a.heap.size → S k → S'' k) (h2 : ∀ k, k < a.heap.size → S' k → S'' k) : Chg a c S'' :=
  ⟨h'.os.trans h.os, h'.tape.trans h.tape, h'.output.trans h.output, Nat.le_trans h.size h'.size, fun k hk hn =>
    (h'.block k (Nat.lt_of_lt_of_le hk h.size) (fun e => hn (h2 k hk e))).trans (h.block k hk (fun e => hn (h1 k hk e)))⟩
theorem Chg.mono {a b : World} {S S' : Nat → Prop} (h : Chg a b S) (h1 : ∀ k, k < a.heap.size → S k → S' k) : Chg a b S' :=
  ⟨h.os, h.tape, h.output, h.size, fun k hk hn => h.block k hk (fun e => hn (h1 k hk e))⟩
theorem Chg.chain {a b c : World} {S : Nat → Prop} (h : Chg a b S) (h' : Chg b c S) : Chg a c S := h.trans h' (fun _ _ q => q) (fun _ _ q => q)
theorem Chg.drew {a w : World} {S : Nat → Prop} (h : Chg a w S) : Chg a w.drew S := ⟨h.os, h.tape, h.output, h.size, h.block⟩
theorem Chg.drewN {a w : World} {S : Nat → Prop} (h : Chg a w S) (n : Nat) : Chg a (w.drewN n) S := ⟨h.os, h.tape, h.output, h.size, h.block⟩
theorem Chg.ofAlloc (w : World) (o : Obj) (S : Nat → Prop) : Chg w (w.alloc o) S := ⟨rfl, rfl, rfl, by simp, fun k hk _ => Below.heap_alloc w o k hk⟩
theorem Chg.alloc {a w : World} {S : Nat → Prop} (h : Chg a w S) (o : Obj) : Chg a (w.alloc o) S := h.chain (Chg.ofAlloc w o S)
theorem Chg.ofSet (w : World) (p : Addr) (u : Value) {S : Nat → Prop} (hp : S p.block) : Chg w (w.setCell p u) S :=
  ⟨rfl, rfl, rfl, by simp [World.setCell], fun k _ hn => Below.heap_setCell _ _ _ _ (fun e => hn (e ▸ hp))⟩
theorem Chg.setCell {a w : World} {S : Nat → Prop} (h : Chg a w S) (p : Addr) (u : Value) (hp : S p.block) : Chg a (w.setCell p u) S := h.chain (Chg.ofSet w p u hp)
theorem Chg.ofGrown {w w' : World} {row : Option Nat} (h : w.grownBy w' row) {S : Nat → Prop} (hr : ∀ k, row = some k → S k) : Chg w w' S :=
  ⟨h.os, h.tape, h.output, h.size, fun k hk hn => h.block k hk (fun e => hn (hr k e.symm))⟩
theorem Chg.below {w w' : World} {S : Nat → Prop} {B : Nat} (h : Chg w w' S) (hB : B ≤ w.heap.size) (hS : ∀ k, k < B → ¬ S k) : Below B w w' :=
  ⟨h.os, h.tape, h.output, h.size, fun k hk => h.block k (by omega) (hS k hk)⟩
theorem Chg.heap {w w' : World} {S : Nat → Prop} (h : Chg w w' S) {k : Nat} {o : Obj} (hk : w.heap[k]? = some o) (hn : ¬ S k) : w'.heap[k]? = some o :=
  (h.block k (Array.getElem?_eq_some_iff.1 hk).1 hn).trans hk

/-- A block that is known whole: a cell of it, and that it may be written. -/
theorem cell_of_block {w : World} {b : Nat} {cs : Array Value} {t : TypeId} {fr : Nat × Nat} (h : w.heap[b]? = some (.cells cs t fr)) (j : Nat) : w.cell? ⟨b, j, none⟩ = cs[j]? := cell_of_row w b j cs t fr h
theorem frozen_of_block {w : World} {b : Nat} {cs : Array Value} {t : TypeId} (h : w.heap[b]? = some (.cells cs t (0, 0))) (j : Nat) : w.frozen? ⟨b, j, none⟩ = false := by simp [World.frozen?, h]
theorem set_of_block {w : World} {b : Nat} {cs : Array Value} {t : TypeId} {fr : Nat × Nat} (h : w.heap[b]? = some (.cells cs t fr)) (j : Nat) (u : Value) : (w.setCell ⟨b, j, none⟩ u).heap[b]? = some (.cells (cs.setIfInBounds j u) t fr) := by
  simp [World.setCell, Array.getElem?_modify, h]

theorem cell_alloc {w : World} {a : Addr} {v : Value} (h : w.cell? a = some v) (o : Obj) : (w.alloc o).cell? a = some v := by
  rw [World.cell?_of_block (w := w) (w' := w.alloc o) (Below.heap_alloc w o a.block (World.block_lt_of_cell? w a h))]; exact h

theorem heap_new {w : World} {k : Nat} (o : Obj) (h : w.heap.size = k) : (w.alloc o).heap[k]? = some o := by subst h; exact heap_alloc_new w o
theorem heap_old {w : World} {k : Nat} {x : Obj} (o : Obj) (h : w.heap[k]? = some x) : (w.alloc o).heap[k]? = some x := (Below.heap_alloc w o k (Array.getElem?_eq_some_iff.1 h).1).trans h
theorem frozen_alloc {w : World} {a : Addr} (hl : a.block < w.heap.size) (h : w.frozen? a = false) (o : Obj) : (w.alloc o).frozen? a = false := by
  rw [World.frozen?_of_block (w := w) (w' := w.alloc o) (Below.heap_alloc w o a.block hl)]; exact h
theorem cell_drew {w : World} {a : Addr} {v : Value} (h : w.cell? a = some v) : w.drew.cell? a = some v := h

/-- append into a row that is known whole and has room, as one step of a region that draws. -/
theorem step_append_row {P : Program} {ops : Array Oper} {o : Oper} {a : Act} {w : World} {K : Act → World → Prop} {Q : Exit → Act → World → Prop} {E : Prop}
    (hgd : o.guard = none) (s x : Operand) (t : TypeId) (ho : o.op = Op.call { callee := Callee.builtin Builtin.append, args := #[s, x], argTypes := #[t, t] })
    (e : TypeId) (i : TypeInfo) (size : Nat) (ht : P.underlying t = some (.slice e)) (hi : P.info? e = some i) (hsize : i.size = size)
    (g n cap : Nat) (cur : Array Value) (hs : a.eval s = .slice (some ⟨g, 0, none⟩) n cap) (hg : w.heap[g]? = some (.cells cur e (0, 0)))
    (ad : Addr) (m c : Nat) (news : List Value) (hx : a.eval x = .slice (some ad) m c) (hl : news.length = m * size) (hnews : ∀ j u, news[j]? = some u → w.cell? (ad.add j) = some u) (h1 : ∀ u ∈ news, u.oneCell' = true)
    (hroom : n + m ≤ cap) (hfit : n * size + news.length ≤ cur.size)
    (hK : ∀ w', w'.heap[g]? = some (.cells (cur.toList.take (n * size) ++ news ++ cur.toList.drop (n * size + news.length)).toArray e (0, 0)) → w.grownBy w' (some g) → w'.heap.size = w.heap.size →
      K (a.put o.dst (.slice (some ⟨g, 0, none⟩) (n + m) cap)) w') :
    if Region.wanted o (yielded ops a.tmps) = true then Oper.wp P o a w K Q else E := by
  have hw : Region.wanted o (yielded ops a.tmps) = true := by simp [Region.wanted, hgd]
  rw [if_pos hw]
  subst hsize
  have hr := run_append_room (P := P) w t o.type e i ht hi g n cap cur hg ad m c news hl hnews h1 hroom hfit
  unfold Oper.wp execOp
  simp only [ho, resolve, invoke, builtin, Sem.run_bind, Sem.run_pure, Result.andThen_ok, List.map_toArray, List.map_cons, List.map_nil, hs, hx, hr]
  exact hK _ (setRow_heap w g cur _ e _ hg) ⟨rfl, rfl, rfl, by simp, fun k _ hk => setRow_other w g k _ (fun e => hk (by simp [e]))⟩ (by simp)

end Go.Proofs.Qxb6000182a
