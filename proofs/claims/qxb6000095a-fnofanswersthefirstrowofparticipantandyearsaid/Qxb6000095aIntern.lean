import Derived.Test.Qxb6000095aSMap
import Derived.Test.Qxb6000095aStrs
import Derived.Deep.AppendLies
namespace Go.Proofs.Qxb6000095a
open Go.RowKit
set_option linter.unusedSimpArgs false
set_option linter.unusedVariables false

/-- the place of s in xs; the length where there is none -/
def rk : List ByteArray → ByteArray → Nat
  | [], _ => 0
  | x :: xs, s => if x = s then 0 else rk xs s + 1

theorem rk_le (xs : List ByteArray) (s : ByteArray) : rk xs s ≤ xs.length := by
  induction xs with
  | nil => simp [rk]
  | cons x xs ih => simp only [rk, List.length_cons]; split <;> omega
theorem rk_get {xs : List ByteArray} {s : ByteArray} (h : rk xs s < xs.length) : xs[rk xs s]? = some s := by
  induction xs with
  | nil => simp [rk] at h
  | cons x xs ih =>
    simp only [rk, List.length_cons] at h ⊢
    split
    · rename_i e; simp [e]
    · rename_i e; rw [if_neg e] at h; simpa using ih (by omega)
theorem rk_before {xs : List ByteArray} {s : ByteArray} {j : Nat} (h : j < rk xs s) : ∃ t, xs[j]? = some t ∧ t ≠ s := by
  induction xs generalizing j with
  | nil => simp [rk] at h
  | cons x xs ih =>
    simp only [rk] at h
    split at h
    · omega
    · rename_i e
      cases j with
      | zero => exact ⟨x, rfl, e⟩
      | succ j => simpa using ih (j := j) (by omega)
theorem rk_first {xs : List ByteArray} {s : ByteArray} {j : Nat} (h : xs[j]? = some s) (hb : ∀ i, i < j → ∃ t, xs[i]? = some t ∧ t ≠ s) : rk xs s = j := by
  induction xs generalizing j with
  | nil => simp at h
  | cons x xs ih =>
    simp only [rk]
    cases j with
    | zero => simp at h; simp [h]
    | succ j =>
      obtain ⟨t, ht, hne⟩ := hb 0 (by omega)
      simp at ht
      subst ht
      rw [if_neg hne, ih (by simpa using h) (fun i hi => by simpa using hb (i + 1) (by omega))]
theorem rk_snoc (xs : List ByteArray) (t s : ByteArray) : rk (xs ++ [t]) s = if rk xs s < xs.length then rk xs s else if t = s then xs.length else xs.length + 1 := by
  induction xs with
  | nil => simp [rk]
  | cons x xs ih =>
    simp only [rk, List.cons_append, List.length_cons]
    split
    · simp
    · rw [ih]
      by_cases h1 : rk xs s < xs.length
      · simp [h1]
      · by_cases h2 : t = s <;> simp [h1, h2]

def idx (xs : List ByteArray) (s : ByteArray) : Option Int := if rk xs s < xs.length then some (rk xs s : Int) else none
def addT (xs : List ByteArray) (s : ByteArray) : List ByteArray := if rk xs s < xs.length then xs else xs ++ [s]

structure Texts (w : World) (base G Tb : Nat) (vt : Value) (xs : List ByteArray) : Prop where
  row : w.ownsRow base 9 1 vt xs.length (xs.map .string)
  map : SMap w Tb xs.length (idx xs)
  vG : vt.ownBlock ≠ some G
  vT : vt.ownBlock ≠ some Tb
  TG : Tb ≠ G
  len : ∀ s ∈ xs, s.size ≤ maxLen

theorem idx_add {xs : List ByteArray} {s : ByteArray} (h : ¬ rk xs s < xs.length) : idx (xs ++ [s]) = upd (idx xs) s (xs.length : Int) := by
  funext t
  unfold upd idx
  rw [rk_snoc]
  simp only [List.length_append, List.length_cons, List.length_nil]
  by_cases e : t = s
  · subst e
    simp [h]
  · have e' : ¬ s = t := fun h => e h.symm
    by_cases ht : rk xs t < xs.length
    · simp [e, ht]; omega
    · simp [e, e', ht]

theorem Texts.chg {w w' : World} {base G Tb : Nat} {vt : Value} {xs : List ByteArray} (h : Texts w base G Tb vt xs) {S : Nat → Prop} (hc : Chg w w' S) (h1 : ¬ S Tb) (h2 : ∀ k, vt.ownBlock = some k → ¬ S k) : Texts w' base G Tb vt xs := by
  refine ⟨⟨h.row.1, ?_⟩, h.map.chg hc h1, h.vG, h.vT, h.TG, h.len⟩
  rcases h.row.2 with hv | ⟨g', cap', cur, e1, e2, e3, e4⟩
  · exact .inl hv
  · exact .inr ⟨g', cap', cur, e1, e2, hc.heap e3 (h2 _ (by rw [e1]; rfl)), e4⟩

theorem Texts.form {w : World} {base G Tb : Nat} {vt : Value} {xs : List ByteArray} (h : Texts w base G Tb vt xs) : ∃ a c, vt = .slice a xs.length c := by
  rcases h.row.2 with ⟨h, h'⟩ | ⟨g, c, cur, h, _⟩
  · exact ⟨none, 0, by rw [h, h']⟩
  · exact ⟨_, _, h⟩

/-- what intern leaves -/
structure Interned (w w' : World) (base G Tb : Nat) (f vm ct la vt : Value) (ys : List ByteArray) (vt' : Value) : Prop where
  texts : Texts w' base G Tb vt' ys
  hG : w'.heap[G]? = some (.cells #[f, vm, ct, vt', .map (some Tb), la] 61 (0, 0))
  chg : Chg w w' (fun k => k = G ∨ k = Tb ∨ vt.ownBlock = some k)
  new : ∀ k, vt'.ownBlock = some k → vt.ownBlock = some k ∨ w.heap.size ≤ k

theorem f29_hit (w : World) (base G Tb : Nat) (f vm ct la vt : Value) (xs : List ByteArray) (s : ByteArray) (X : Texts w base G Tb vt xs) (hG : w.heap[G]? = some (.cells #[f, vm, ct, vt, .map (some Tb), la] 61 (0, 0)))
    (hs : s.size ≤ 1048576) (hin : rk xs s < xs.length) :
    Calls Try.prog 29 #[.pointer (some ⟨G, 0, none⟩), .string s] w fun e w' => e = .returned (.int .i32 (rk xs s : Int)) ∧ ∃ vt', Interned w w' base G Tb f vm ct la vt (addT xs s) vt' := by
  have hl := X.map.look (s := s) (by unfold maxLen; omega)
  simp only [idx, hin, if_true, Option.getD_some, Option.isSome_some] at hl
  have c4 : w.cell? ⟨G, 4, none⟩ = some (.map (some Tb)) := cell_of_block hG 4
  have HX := hide X
  have HG := hide hG
  have HA := hide (show addT xs s = xs by simp [addT, hin])
  clear X hG hin
  go_enter Try.func29, Try.ntmps29
  go_wp2
  go_ret
  exact ⟨rfl, vt, by rw [HA.out]; exact HX.out, HG.out, Chg.refl _ _, fun k h => .inl h⟩

theorem interned_new {w w1 w2 w4 : World} {base G Tb : Nat} {f vm ct la vt : Value} {xs : List ByteArray} {s : ByteArray} {g cap : Nat} (X : Texts w base G Tb vt xs) (X1 : Texts w1 base G Tb vt xs) (hc1 : Chg w w1 (fun _ => False))
    (hs : s.size ≤ 1048576) (hin : ¬ rk xs s < xs.length) (hown : w2.ownsRow base 9 1 (.slice (some ⟨g, 0, none⟩) (xs.length + 1) cap) (xs.length + 1) (xs.map .string ++ [.string s]))
    (hc3 : Chg w1 (w2.setCell ⟨G, 3, none⟩ (.slice (some ⟨g, 0, none⟩) (xs.length + 1) cap)) (fun k => k = G ∨ vt.ownBlock = some k))
    (hG2 : w2.heap[G]? = some (.cells #[f, vm, ct, vt, .map (some Tb), la] 61 (0, 0))) (hat : vt.ownBlock = some g ∨ g = w1.heap.size + 1)
    (hm : SMap w4 Tb (xs.length + 1) (upd (idx xs) s (xs.length : Int))) (hg : (w2.setCell ⟨G, 3, none⟩ (.slice (some ⟨g, 0, none⟩) (xs.length + 1) cap)).grownBy w4 (some Tb)) (lG : G < w.heap.size) :
    Interned w w4 base G Tb f vm ct la vt (xs ++ [s]) (.slice (some ⟨g, 0, none⟩) (xs.length + 1) cap) := by
  have lT : Tb < w1.heap.size := X1.map.lt
  have hz := hc1.size
  have hgG : g ≠ G := by
    rcases hat with h | h
    · rintro rfl; exact X.vG h
    · omega
  have hgT : g ≠ Tb := by
    rcases hat with h | h
    · rintro rfl; exact X.vT h
    · omega
  have hc4 := Chg.ofGrown hg (S := fun k => k = Tb) (fun k h => (Option.some.inj h).symm)
  refine ⟨⟨?_, ?_, ?_, ?_, X.TG, ?_⟩, ?_, ?_, ?_⟩
  · rw [List.length_append, List.map_append]
    refine ⟨by simp, ?_⟩
    rcases hown.2 with ⟨h, _⟩ | ⟨g', cap', cur, h1, h2, h3, h4⟩
    · cases h
    · cases h1
      exact .inr ⟨g, cap, cur, rfl, h2, hc4.heap (by rw [Below.heap_setCell _ _ _ _ hgG]; exact h3) hgT, h4⟩
  · rw [idx_add hin, List.length_append]; exact hm
  · exact fun h => hgG (Option.some.inj h)
  · exact fun h => hgT (Option.some.inj h)
  · intro t ht
    rcases List.mem_append.1 ht with h | h
    · exact X.len t h
    · simp at h; subst h; unfold maxLen; omega
  · exact hc4.heap (set_of_block hG2 3 _) (Ne.symm X.TG)
  · refine hc1.trans (hc3.trans hc4 (S'' := fun k => k = G ∨ k = Tb ∨ vt.ownBlock = some k) ?_ ?_) ?_ ?_
    · rintro k _ (h | h)
      · exact .inl h
      · exact .inr (.inr h)
    · intro k _ h; exact .inr (.inl h)
    · intro k _ h; exact h.elim
    · intro k _ h; exact h
  · intro k h
    have : g = k := Option.some.inj h
    subst this
    rcases hat with h' | h'
    · exact .inl h'
    · exact .inr (by omega)

set_option maxHeartbeats 1000000 in
set_option maxRecDepth 100000 in
theorem f29_miss (w : World) (base G Tb : Nat) (f vm ct la vt : Value) (xs : List ByteArray) (s : ByteArray) (X : Texts w base G Tb vt xs) (hG : w.heap[G]? = some (.cells #[f, vm, ct, vt, .map (some Tb), la] 61 (0, 0)))
    (hs : s.size ≤ 1048576) (hin : ¬ rk xs s < xs.length) (hx : xs.length ≤ 100000) (hbase : base ≤ w.heap.size) :
    Calls Try.prog 29 #[.pointer (some ⟨G, 0, none⟩), .string s] w fun e w' => e = .returned (.int .i32 (rk xs s : Int)) ∧ ∃ vt', Interned w w' base G Tb f vm ct la vt (addT xs s) vt' := by
  have hl := X.map.look (s := s) (by unfold maxLen; omega)
  simp only [idx, hin, if_false, Option.getD_none, Option.isSome_none] at hl
  obtain ⟨i9, hi, hz0, hz1, hz2⟩ := info_parts info9
  obtain ⟨va, vc, hv⟩ := X.form
  have c3 : w.cell? ⟨G, 3, none⟩ = some (.slice va xs.length vc) := (cell_of_block hG 3).trans (by rw [hv]; rfl)
  have c4 : w.cell? ⟨G, 4, none⟩ = some (.map (some Tb)) := cell_of_block hG 4
  have lG : G < w.heap.size := (Array.getElem?_eq_some_iff.1 hG).1
  have HX := hide X
  have HG := hide hG
  have hrk : rk xs s = xs.length := by have := rk_le xs s; omega
  have HA := hide (show addT xs s = xs ++ [s] by simp [addT, hin])
  have HV := hide hv
  have HI := hide hin
  rw [hrk]
  clear X hG hin hrk hv
  go_enter Try.func29, Try.ntmps29
  go_wp2_with fail
  refine (f32_any s w (by omega)).mono ?_
  rintro e w1 ⟨rfl, hb⟩
  have d3 : w1.cell? ⟨G, 3, none⟩ = some (.slice va xs.length vc) := (hb.cell lG).trans c3
  have hz := hb.size
  have hG1 : w1.heap[G]? = some (.cells #[f, vm, ct, vt, .map (some Tb), la] 61 (0, 0)) := (hb.block G lG).trans HG.out
  have hch : Chg w w1 (fun _ => False) := ⟨hb.os, hb.tape, hb.output, hb.size, fun k hk _ => hb.block k hk⟩
  have X1 : Texts w1 base G Tb vt xs := HX.out.chg hch id (fun _ _ => id)
  have HX1 := hide X1
  have HC1 := hide hch
  have HG1 := hide hG1
  have HR := hide (show w1.ownsRow base 9 1 (.slice va xs.length vc) xs.length (xs.map .string) from HV.out ▸ X1.row)
  clear c3 c4 hl hb hG1 hch X1
  go_wp2_with (at_builtin; refine wpList_append_lies _ rfl _ _ _ rfl base 9 i9 _ 1 16 Try.underlying54 hi hz0 hz1 hz2 rfl (by omega) (.slice va xs.length vc) xs.length (xs.map .string) rfl (HR.out.alloc _) ⟨w1.heap.size, 0, none⟩ 1 1 [.string s] rfl rfl (World.news_of_block (cs := #[.string s]) (t := 9) (fr := (0, 0)) (heap_new _ rfl)) (by simp [Value.oneCell']) (by omega) (by unfold maxLen; omega) (by omega) (by simp; omega) (w1.heap.size + 1) (by simp) ?_)
  intro g cap w2 hown2 hgrow2 hat hlt
  rw [← HV.out] at hgrow2 hat
  have hGv := HX.out.vG
  have hTv := HX.out.vT
  have hTG := HX.out.TG
  have lT : Tb < w1.heap.size := HX1.out.map.lt
  have lG1 : G < w1.heap.size := by omega
  have hG2 : w2.heap[G]? = some (.cells #[f, vm, ct, vt, .map (some Tb), la] 61 (0, 0)) := (hgrow2.block G (by simp; omega) (Ne.symm hGv)).trans (heap_old _ HG1.out)
  have z1 : w2.cell? ⟨G, 3, none⟩ = some vt := cell_of_block hG2 3
  have z2 : w2.frozen? ⟨G, 3, none⟩ = false := frozen_of_block hG2 3
  have z3 : w2.cell? ⟨G, 4, none⟩ = some (.map (some Tb)) := cell_of_block hG2 4
  have hc2 : Chg w1 w2 (fun k => vt.ownBlock = some k) := (Chg.ofAlloc w1 _ _).chain (Chg.ofGrown hgrow2 (fun k h => h))
  have hc3 : Chg w1 (w2.setCell ⟨G, 3, none⟩ (.slice (some ⟨g, 0, none⟩) (xs.length + 1) cap)) (fun k => k = G ∨ vt.ownBlock = some k) := (hc2.mono (fun _ _ h => .inr h)).setCell _ _ (.inl rfl)
  have HM3 := hide (HX1.out.map.chg hc3 (by rintro (h | h); exact hTG h; exact hTv h))
  have hwf : (Lit.int .i32 (xs.length : Int)).wf = true := wf_i32 (by omega) (by omega)
  have HO := hide hown2
  have HC3 := hide hc3
  have HG2 := hide hG2
  have HAT := hide hat
  have HTv := hide hTv
  have HGv := hide hGv
  clear hown2 hc3 hc2 hG2 hat hgrow2 hTv hGv
  go_wp2_with (at_mapUpdate; refine wpList_smap_store _ rfl _ _ _ rfl Tb xs.length (idx xs) rfl HM3.out (by unfold maxLen; omega) s (by unfold maxLen; omega) (xs.length : Int) rfl rfl hwf (xs.length + 1) (by simp [idx, HI.out]) ?_)
  intro w4 hm4 hg4
  have HM4 := hide hm4
  have HG4 := hide hg4
  clear hm4 hg4
  go_wp2
  go_ret
  refine ⟨rfl, .slice (some ⟨g, 0, none⟩) (xs.length + 1) cap, ?_⟩
  rw [HA.out]
  exact interned_new HX.out HX1.out HC1.out hs HI.out HO.out HC3.out HG2.out HAT.out HM4.out HG4.out lG

theorem f29_any (w : World) (base G Tb : Nat) (f vm ct la vt : Value) (xs : List ByteArray) (s : ByteArray) (X : Texts w base G Tb vt xs) (hG : w.heap[G]? = some (.cells #[f, vm, ct, vt, .map (some Tb), la] 61 (0, 0)))
    (hs : s.size ≤ 1048576) (hx : xs.length ≤ 100000) (hbase : base ≤ w.heap.size) :
    Calls Try.prog 29 #[.pointer (some ⟨G, 0, none⟩), .string s] w fun e w' => e = .returned (.int .i32 (rk xs s : Int)) ∧ ∃ vt', Interned w w' base G Tb f vm ct la vt (addT xs s) vt' := by
  by_cases h : rk xs s < xs.length
  · exact f29_hit w base G Tb f vm ct la vt xs s X hG hs h
  · exact f29_miss w base G Tb f vm ct la vt xs s X hG hs h hx hbase

/-- ZZB1Intern -/
theorem f12_any (w : World) (base G Tb : Nat) (f vm ct la vt : Value) (xs : List ByteArray) (s : ByteArray) (X : Texts w base G Tb vt xs) (hG : w.heap[G]? = some (.cells #[f, vm, ct, vt, .map (some Tb), la] 61 (0, 0)))
    (hs : s.size ≤ 1048576) (hx : xs.length ≤ 100000) (hbase : base ≤ w.heap.size) :
    Calls Try.prog 12 #[.pointer (some ⟨G, 0, none⟩), .string s] w fun e w' => e = .returned (.int .i32 (rk xs s : Int)) ∧ ∃ vt', Interned w w' base G Tb f vm ct la vt (addT xs s) vt' := by
  have H := hide (f29_any w base G Tb f vm ct la vt xs s X hG hs hx hbase)
  clear X hG hs hx hbase
  go_enter Try.func12, Try.ntmps12
  go_wp2_with fail
  refine H.out.mono ?_
  rintro e w' ⟨rfl, h⟩
  go_wp2
  go_ret
  exact ⟨rfl, h⟩

end Go.Proofs.Qxb6000095a
