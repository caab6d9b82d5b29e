import Derived.Test.Qxb6000095aAdd
namespace Go.Proofs.Qxb6000095a
open Go.RowKit
set_option linter.unusedSimpArgs false
set_option linter.unusedVariables false

/-- chunk k's length when n marks are held -/
def cl (n k : Nat) : Nat := min 4096 (n - 4096 * k)
def rowOf (cbs : List Nat) (n : Nat) : List Value := (List.range cbs.length).map fun k => .slice (some ⟨cbs.getD k 0, 0, none⟩) (cl n k) 4096

/-- the first m marks of a chunk that begins with mark s -/
def Held (cur : Array Value) (s m : Nat) (L Y T N : Nat → Int) : Prop :=
  ∀ i, i < m → cur[i * 4]? = some (.int .i32 (L (s + i))) ∧ cur[i * 4 + 1]? = some (.int .i16 (Y (s + i))) ∧ cur[i * 4 + 2]? = some (.int .i32 (T (s + i))) ∧ cur[i * 4 + 3]? = some (.int .i32 (N (s + i)))

def Own (vm : Value) (cbs : List Nat) (k : Nat) : Prop := vm.ownBlock = some k ∨ ∃ j, j < cbs.length ∧ cbs.getD j 0 = k

structure Marks (w : World) (base G : Nat) (vm : Value) (cbs : List Nat) (n : Nat) (L Y T N : Nat → Int) : Prop where
  cnt : cbs.length = (n + 4095) / 4096
  row : w.ownsRow base 67 1 vm cbs.length (rowOf cbs n)
  blk : ∀ k, k < cbs.length → ∃ cur, w.heap[cbs.getD k 0]? = some (.cells cur 65 (0, 0)) ∧ cur.size = 16384 ∧ Held cur (4096 * k) (cl n k) L Y T N
  low : ∀ k, k < cbs.length → base ≤ cbs.getD k 0 ∧ cbs.getD k 0 ≠ G ∧ vm.ownBlock ≠ some (cbs.getD k 0)
  nod : ∀ j k, j < k → k < cbs.length → cbs.getD j 0 ≠ cbs.getD k 0
  vG : vm.ownBlock ≠ some G

theorem Held.snoc {cur : Array Value} {s r : Nat} {L Y T N : Nat → Int} (h : Held cur s r L Y T N) (hr : r < 4096) (hs : cur.size = 16384) {l y t x : Int}
    (hl : l = L (s + r)) (hy : y = Y (s + r)) (ht : t = T (s + r)) (hx : x = N (s + r)) :
    Held (cur.toList.take (r * 4) ++ ([.int .i32 l, .int .i16 y, .int .i32 t, .int .i32 x] : List Value) ++ cur.toList.drop (r * 4 + 4)).toArray s (r + 1) L Y T N := by
  subst hl hy ht hx
  have len : (cur.toList.take (r * 4)).length = r * 4 := by simp; omega
  intro i hi
  by_cases e : i = r
  · subst e
    simp only [List.getElem?_toArray, List.append_assoc]
    refine ⟨?_, ?_, ?_, ?_⟩ <;> rw [List.getElem?_append_right (by omega)] <;> rw [len] <;> simp
  · obtain ⟨h0, h1, h2, h3⟩ := h i (by omega)
    simp only [List.getElem?_toArray, List.append_assoc]
    refine ⟨?_, ?_, ?_, ?_⟩ <;> rw [List.getElem?_append_left (by omega), List.getElem?_take, if_pos (by omega), Array.getElem?_toList] <;> assumption

theorem ownsRow_setLast {w : World} {base g k cap : Nat} {xs : List Value} {u v : Value} (h : w.ownsRow base 67 1 (.slice (some ⟨g, 0, none⟩) (k + 1) cap) (k + 1) (xs ++ [u])) :
    (w.setCell ⟨g, k, none⟩ v).ownsRow base 67 1 (.slice (some ⟨g, 0, none⟩) (k + 1) cap) (k + 1) (xs ++ [v]) := by
  have hl : xs.length = k := by have := h.1; simp at this; omega
  refine ⟨by simpa using h.1, ?_⟩
  rcases h.2 with ⟨h, _⟩ | ⟨g', cap', cur, h1, h2, h3, h4, h5, h6, h7⟩
  · cases h
  · cases h1
    refine .inr ⟨g, cap, cur.setIfInBounds k v, rfl, h2, set_of_block h3 k v, h4, h5, by simpa using h6, ?_⟩
    simp only [Nat.mul_one] at h6 h7 ⊢
    rw [Array.toList_setIfInBounds, List.take_set, h7, List.set_append_right _ _ (by omega)]
    simp [hl]

theorem ownsRow_other {w w' : World} {base g k cap : Nat} {xs : List Value} (h : w.ownsRow base 67 1 (.slice (some ⟨g, 0, none⟩) k cap) k xs) (e : w'.heap[g]? = w.heap[g]?) : w'.ownsRow base 67 1 (.slice (some ⟨g, 0, none⟩) k cap) k xs := by
  refine ⟨h.1, ?_⟩
  rcases h.2 with ⟨h, _⟩ | ⟨g', cap', cur, h1, h2, h3, h4⟩
  · cases h
  · cases h1
    exact .inr ⟨g, cap, cur, rfl, h2, e.trans h3, h4⟩

theorem Marks.chg {w w' : World} {base G : Nat} {vm : Value} {cbs : List Nat} {n : Nat} {L Y T N : Nat → Int} (h : Marks w base G vm cbs n L Y T N) {S : Nat → Prop} (hc : Chg w w' S) (hS : ∀ k, Own vm cbs k → ¬ S k) : Marks w' base G vm cbs n L Y T N := by
  refine ⟨h.cnt, ⟨h.row.1, ?_⟩, fun k hk => ?_, h.low, h.nod, h.vG⟩
  · rcases h.row.2 with hv | ⟨g', cap', cur, h1, h2, h3, h4⟩
    · exact .inl hv
    · exact .inr ⟨g', cap', cur, h1, h2, hc.heap h3 (hS _ (.inl (by rw [h1]; rfl))), h4⟩
  · obtain ⟨cur, h1, h2⟩ := h.blk k hk
    exact ⟨cur, hc.heap h1 (hS _ (.inr ⟨k, hk, rfl⟩)), h2⟩

theorem rowOf_get {cbs : List Nat} {n k : Nat} (hk : k < cbs.length) : (rowOf cbs n)[k]? = some (.slice (some ⟨cbs.getD k 0, 0, none⟩) (cl n k) 4096) := by
  simp [rowOf, hk]

theorem rowOf_snoc {cbs : List Nat} {n K c : Nat} {xs : List Value} (hl : xs.length = K) (hcl : cbs.length = K + 1) (hc : cbs.getD K 0 = c)
    (hx : ∀ j, j < K → xs[j]? = some (.slice (some ⟨cbs.getD j 0, 0, none⟩) (cl n j) 4096)) : rowOf cbs n = xs ++ [.slice (some ⟨c, 0, none⟩) (cl n K) 4096] := by
  apply List.ext_getElem?
  intro j
  by_cases hj : j < K
  · rw [rowOf_get (by omega), List.getElem?_append_left (by omega), hx j hj]
  · by_cases e : j = K
    · subst e
      rw [rowOf_get (by omega), List.getElem?_append_right (by omega), hl, hc]; simp
    · rw [List.getElem?_eq_none (by simp [rowOf]; omega), List.getElem?_eq_none (by simp; omega)]

/-- What add leaves: one mark more, at its place; the chunks that were there are where they were. -/
structure Added (w w' : World) (base G : Nat) (f vm tx tm la : Value) (cbs : List Nat) (n : Nat) (L Y T N : Nat → Int) (vm' : Value) (cbs' : List Nat) : Prop where
  marks : Marks w' base G vm' cbs' (n + 1) L Y T N
  hG : w'.heap[G]? = some (.cells #[f, vm', .int .i32 ((n : Int) + 1), tx, tm, la] 61 (0, 0))
  pre : ∀ k, k < cbs.length → cbs'.getD k 0 = cbs.getD k 0
  len : cbs.length ≤ cbs'.length
  chg : Chg w w' (fun k => k = G ∨ Own vm cbs k)
  new : ∀ k, Own vm' cbs' k → Own vm cbs k ∨ w.heap.size ≤ k

theorem marks_add {w wc w1 : World} {base G n : Nat} {f vm tx tm la : Value} {cbs : List Nat} {L Y T N : Nat → Int} {g cap K' c r : Nat} {cur : Array Value} {xs' : List Value}
    (M : Marks w base G vm cbs n L Y T N) (hbase : base ≤ w.heap.size)
    (D : Mid w wc base G n f vm tx tm la #[.int .i32 (L n), .int .i16 (Y n), .int .i32 (T n), .int .i32 (N n)] cbs.length (rowOf cbs n) g cap K' c r cur xs')
    (h1 : w1.heap[c]? = some (.cells (cur.toList.take (r * 4) ++ ([.int .i32 (L n), .int .i16 (Y n), .int .i32 (T n), .int .i32 (N n)] : List Value) ++ cur.toList.drop (r * 4 + 4)).toArray 65 (0, 0)))
    (h2 : Chg wc w1 (fun k => k = c)) :
    ∃ cbs', Added w ((w1.setCell ⟨g, K', none⟩ (.slice (some ⟨c, 0, none⟩) (r + 1) 4096)).setCell ⟨G, 2, none⟩ (.int .i32 ((n : Int) + 1))) base G f vm tx tm la cbs n L Y T N (.slice (some ⟨g, 0, none⟩) (K' + 1) cap) cbs' := by
  have hxl : xs'.length = K' := by have := D.own.1; simp at this; omega
  have cnt := M.cnt
  -- both ways at once: the chunks behind the call
  obtain ⟨cbs', hK', hr, hpre, hlen, hlast, hxs, hHeld, hcf, hgf⟩ : ∃ cbs' : List Nat, K' = n / 4096 ∧ r = n % 4096 ∧ (∀ k, k < cbs.length → cbs'.getD k 0 = cbs.getD k 0) ∧ cbs'.length = K' + 1 ∧ cbs'.getD K' 0 = c ∧
      (∀ j, j < K' → j < cbs.length ∧ xs'[j]? = some (.slice (some ⟨cbs.getD j 0, 0, none⟩) (cl n j) 4096)) ∧ Held cur (4096 * K') r L Y T N ∧ (w.heap.size ≤ c ∨ (K' < cbs.length ∧ cbs.getD K' 0 = c)) ∧ (vm.ownBlock = some g ∨ w.heap.size ≤ g) := by
    rcases D.link with ⟨e, rfl, rfl, rfl, hc, hg⟩ | ⟨e, hv, hx, hK, hcb⟩
    · refine ⟨cbs ++ [c], by omega, by omega, fun k hk => ?_, by simp, ?_, fun j hj => ⟨hj, rowOf_get hj⟩, fun i hi => absurd hi (Nat.not_lt_zero _), .inl hc, hg⟩
      · simp [List.getD, List.getElem?_append_left hk]
      · simp [List.getD]
    · have hlt : K' < cbs.length := by omega
      have hq := rowOf_get (n := n) hlt
      rw [hx, List.getElem?_append_right (by omega), hxl] at hq
      simp only [Nat.sub_self, List.getElem?_cons_zero, Option.some.injEq, Value.slice.injEq, Addr.mk.injEq] at hq
      obtain ⟨⟨hc, _⟩, hr, _⟩ := hq
      have hKn : K' = n / 4096 := by omega
      have hrn : r = n % 4096 := by rw [hr]; unfold cl; omega
      refine ⟨cbs, hKn, hrn, fun k hk => rfl, by omega, hc.symm, fun j hj => ⟨by omega, ?_⟩, ?_, .inr ⟨hlt, hc.symm⟩, .inl (by rw [hv]; rfl)⟩
      · have := rowOf_get (n := n) (k := j) (cbs := cbs) (by omega)
        rwa [hx, List.getElem?_append_left (by omega)] at this
      · obtain ⟨cur', h3, _, h5⟩ := M.blk K' hlt
        rw [← hc, hcb] at h3
        cases h3
        rwa [← hr] at h5
  have hrlt := D.rlt
  have hclen : cbs.length ≤ K' + 1 := by omega
  have gG := D.gG
  have gc := D.gc
  have cG := D.cG
  -- a chunk before the last
  have hold : ∀ j, j < K' → cbs.getD j 0 ≠ c ∧ cbs.getD j 0 ≠ g ∧ cbs.getD j 0 ≠ G ∧ cbs.getD j 0 < w.heap.size := by
    intro j hj
    have hj' := (hxs j hj).1
    obtain ⟨cur', h3, _⟩ := M.blk j hj'
    have hlt : cbs.getD j 0 < w.heap.size := (Array.getElem?_eq_some_iff.1 h3).1
    have hlow := M.low j hj'
    refine ⟨?_, ?_, hlow.2.1, hlt⟩
    · rcases hcf with h | ⟨h, e⟩
      · omega
      · rw [← e]; exact M.nod j K' hj h
    · rcases hgf with h | h
      · intro e; exact hlow.2.2 (by rw [e]; exact h)
      · omega
  have hfin : ∀ k o, w1.heap[k]? = some o → k ≠ g → k ≠ G → ((w1.setCell ⟨g, K', none⟩ (.slice (some ⟨c, 0, none⟩) (r + 1) 4096)).setCell ⟨G, 2, none⟩ (.int .i32 ((n : Int) + 1))).heap[k]? = some o := by
    intro k o h hg hG
    rw [Below.heap_setCell _ _ _ _ hG, Below.heap_setCell _ _ _ _ hg]; exact h
  refine ⟨cbs', ⟨?_, ?_, ?_, ?_, ?_, ?_⟩, ?_, hpre, by omega, ?_, ?_⟩
  · omega
  · have hrow : rowOf cbs' (n + 1) = xs' ++ [.slice (some ⟨c, 0, none⟩) (r + 1) 4096] := by
      rw [rowOf_snoc hxl hlen hlast (fun j hj => ?_)]
      · rw [show cl (n + 1) K' = r + 1 by unfold cl; omega]
      · rw [(hxs j hj).2, hpre j (hxs j hj).1, show cl (n + 1) j = cl n j by unfold cl; omega]
    rw [hlen, hrow]
    refine ownsRow_other (ownsRow_setLast (ownsRow_other D.own ?_)) (Below.heap_setCell _ _ _ _ gG)
    exact h2.block g (by have := last_cell D.own; exact World.block_lt_of_cell? wc _ this) gc
  · intro k hk
    by_cases e : k = K'
    · subst e
      rw [hlast]
      refine ⟨_, hfin c _ h1 (Ne.symm gc) cG, ?_, ?_⟩
      · have := D.csz; simp; omega
      · rw [show cl (n + 1) k = r + 1 by unfold cl; omega]
        have en : n = 4096 * k + r := by omega
        exact hHeld.snoc hrlt D.csz (by rw [← en]) (by rw [← en]) (by rw [← en]) (by rw [← en])
    · have hk' : k < K' := by omega
      obtain ⟨a1, a2, a3, a4⟩ := hold k hk'
      obtain ⟨cur', h3, h4, h5⟩ := M.blk k (hxs k hk').1
      rw [hpre k (hxs k hk').1]
      refine ⟨cur', hfin _ _ (h2.heap (D.chg.heap h3 ?_) a1) a2 a3, h4, ?_⟩
      · rintro (h | h)
        · exact a3 h
        · exact (M.low k (hxs k hk').1).2.2 h
      · rwa [show cl (n + 1) k = cl n k by unfold cl; omega]
  · intro k hk
    have hvb : (Value.slice (some ⟨g, 0, none⟩) (K' + 1) cap).ownBlock = some g := rfl
    by_cases e : k = K'
    · subst e
      rw [hlast, hvb]
      refine ⟨?_, cG, fun h => gc (Option.some.inj h)⟩
      rcases hcf with h | ⟨h, e⟩
      · omega
      · rw [← e]; exact (M.low k h).1
    · have hk' : k < K' := by omega
      obtain ⟨a1, a2, a3, a4⟩ := hold k hk'
      rw [hpre k (hxs k hk').1, hvb]
      exact ⟨(M.low k (hxs k hk').1).1, a3, fun h => a2 (Option.some.inj h).symm⟩
  · intro j k hjk hk
    have hj := hpre j (hxs j (by omega)).1
    by_cases e : k = K'
    · subst e
      rw [hlast, hj]; exact (hold j hjk).1
    · rw [hj, hpre k (hxs k (by omega)).1]; exact M.nod j k hjk (hxs k (by omega)).1
  · exact fun h => gG (Option.some.inj h)
  · have hGw : w1.heap[G]? = some (.cells #[f, .slice (some ⟨g, 0, none⟩) (K' + 1) cap, .int .i32 (n : Int), tx, tm, la] 61 (0, 0)) := h2.heap D.hG (Ne.symm cG)
    have hGs : (w1.setCell ⟨g, K', none⟩ (.slice (some ⟨c, 0, none⟩) (r + 1) 4096)).heap[G]? = some (.cells #[f, .slice (some ⟨g, 0, none⟩) (K' + 1) cap, .int .i32 (n : Int), tx, tm, la] 61 (0, 0)) := by
      rw [Below.heap_setCell _ _ _ _ (Ne.symm gG)]; exact hGw
    rw [set_of_block hGs]; rfl
  · have s1 : Chg w w1 (fun k => (k = G ∨ vm.ownBlock = some k) ∨ k = c) := D.chg.trans h2 (fun k _ h => .inl h) (fun k _ h => .inr h)
    have s2 := (s1.trans ((Chg.ofSet w1 ⟨g, K', none⟩ (.slice (some ⟨c, 0, none⟩) (r + 1) 4096) (S := fun k => k = g) rfl).trans (Chg.ofSet _ ⟨G, 2, none⟩ (.int .i32 ((n : Int) + 1)) (S := fun k => k = G) rfl) (S'' := fun k => k = g ∨ k = G) (fun _ _ h => .inl h) (fun _ _ h => .inr h))
      (S'' := fun k => k = G ∨ Own vm cbs k) (fun k hk h => ?_) (fun k hk h => ?_))
    · exact s2
    · rcases h with (h | h) | h
      · exact .inl h
      · exact .inr (.inl h)
      · rcases hcf with h' | ⟨h', e⟩
        · omega
        · exact .inr (.inr ⟨K', h', by rw [e, h]⟩)
    · rcases h with h | h
      · rcases hgf with h' | h'
        · exact .inr (.inl (by rw [h]; exact h'))
        · omega
      · exact .inl h
  · rintro k (h | ⟨j, hj, h⟩)
    · have : g = k := Option.some.inj h
      subst this
      rcases hgf with h' | h'
      · exact .inl (.inl h')
      · exact .inr h'
    · by_cases e : j = K'
      · subst e
        rw [hlast] at h
        subst h
        rcases hcf with h' | ⟨h', e⟩
        · exact .inr h'
        · exact .inl (.inr ⟨j, h', e⟩)
      · exact .inl (.inr ⟨j, (hxs j (by omega)).1, by rw [← hpre j (hxs j (by omega)).1]; exact h⟩)

theorem f30_marks (w : World) (base G n : Nat) (f vm tx tm la : Value) (cbs : List Nat) (L Y T N : Nat → Int) (M : Marks w base G vm cbs n L Y T N) (hbase : base ≤ w.heap.size) (hn : n ≤ 32768)
    (hG : w.heap[G]? = some (.cells #[f, vm, .int .i32 (n : Int), tx, tm, la] 61 (0, 0))) :
    Calls Try.prog 30 #[.pointer (some ⟨G, 0, none⟩), .agg #[.int .i32 (L n), .int .i16 (Y n), .int .i32 (T n), .int .i32 (N n)]] w fun e w' => e = .returned (.tuple #[]) ∧
      ∃ vm' cbs', Added w w' base G f vm tx tm la cbs n L Y T N vm' cbs' := by
  have cnt := M.cnt
  refine (add_any w base G n f vm tx tm la cbs.length (rowOf cbs n) (L n) (Y n) (T n) (N n) hG M.row M.vG hbase (by omega) (by omega) ?_).mono ?_
  · by_cases e : n % 4096 = 0
    · exact .inl e
    · obtain ⟨K', hK⟩ : ∃ K', cbs.length = K' + 1 := ⟨cbs.length - 1, by omega⟩
      obtain ⟨cur, h1, h2, _⟩ := M.blk K' (by omega)
      have hlow := M.low K' (by omega)
      refine .inr ⟨e, K', cbs.getD K' 0, cl n K', cur, (rowOf cbs n).take K', hK, ?_, by unfold cl; omega, h1, h2, hlow.2.1, hlow.2.2⟩
      exact rowOf_snoc (by simp [rowOf]; omega) hK rfl (fun j hj => by rw [List.getElem?_take, if_pos hj, rowOf_get (by omega)])
  · rintro e w' ⟨rfl, wc, g, cap, K', c, r, cur, xs', w1, D, h1, h2, rfl⟩
    obtain ⟨cbs', h⟩ := marks_add M hbase D h1 h2
    exact ⟨rfl, _, cbs', h⟩

end Go.Proofs.Qxb6000095a
