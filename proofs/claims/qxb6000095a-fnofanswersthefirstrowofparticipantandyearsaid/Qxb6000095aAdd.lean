import Derived.Test.Qxb6000095aBase
import Derived.Test.Qxb6000095aMem
import Derived.Deep.RegionHeld3
import Derived.Deep.DrawnRows
import Derived.BigQuiet
import Derived.Deep.DeepCutAuto
namespace Go.Proofs.Qxb6000095a
open Go.RowKit
set_option linter.unusedSimpArgs false
set_option linter.unusedVariables false
attribute [local go_sem ↓] Go.wp_at_zero Go.wp_at_succ

theorem info65 : (Try.prog.info? 65).map (fun i => (i.zero, i.size, i.bytes)) = some (some (.agg #[.int .i32 0, .int .i16 0, .int .i32 0, .int .i32 0]), 4, 16) := by kernel_rfl
theorem info67 : (Try.prog.info? 67).map (fun i => (i.zero, i.size, i.bytes)) = some (some (.slice none 0 0), 1, 24) := by kernel_rfl

def chunk0 : Array Value := madeCells #[.int .i32 0, .int .i16 0, .int .i32 0, .int .i32 0] 16384
theorem chunk0_size : chunk0.size = 16384 := size_madeCells _ _
theorem mk67 (w : World) : (Instr.makeSlice 67 (.int .i64 0) (.int .i64 4096)).run Try.prog w = .ok (.slice (some ⟨w.heap.size, 0, none⟩) 0 4096) (w.alloc (.cells chunk0 65)) := by
  obtain ⟨i, hi, hz0, hz1, hz2⟩ := info_parts info65
  have := run_make (P := Try.prog) w 67 65 i _ Try.underlying67 hi hz0 .i64 .i64 0 4096 (by omega) (by omega) (by rw [hz2]; omega) (by omega)
  rw [hz1] at this
  simpa [Value.cells, chunk0] using this

/-- Behind the 'if' of add: there is a last chunk with room. -/
structure Mid (w wc : World) (base G n : Nat) (f vm tx tm la : Value) (box : Array Value) (K : Nat) (xs : List Value) (g cap K' c r : Nat) (cur : Array Value) (xs' : List Value) : Prop where
  hG : wc.heap[G]? = some (.cells #[f, .slice (some ⟨g, 0, none⟩) (K' + 1) cap, .int .i32 (n : Int), tx, tm, la] 61 (0, 0))
  own : wc.ownsRow base 67 1 (.slice (some ⟨g, 0, none⟩) (K' + 1) cap) (K' + 1) (xs' ++ [.slice (some ⟨c, 0, none⟩) r 4096])
  rlt : r < 4096
  chunk : wc.heap[c]? = some (.cells cur 65 (0, 0))
  csz : cur.size = 16384
  gG : g ≠ G
  gc : g ≠ c
  cG : c ≠ G
  hbox : wc.heap[w.heap.size]? = some (.cells box 65 (0, 0))
  gb : g ≠ w.heap.size
  cb : c ≠ w.heap.size
  Gb : G < w.heap.size
  link : (n % 4096 = 0 ∧ xs' = xs ∧ K' = K ∧ r = 0 ∧ w.heap.size ≤ c ∧ (vm.ownBlock = some g ∨ w.heap.size ≤ g)) ∨
    (n % 4096 ≠ 0 ∧ vm = .slice (some ⟨g, 0, none⟩) (K' + 1) cap ∧ xs = xs' ++ [.slice (some ⟨c, 0, none⟩) r 4096] ∧ K = K' + 1 ∧ w.heap[c]? = some (.cells cur 65 (0, 0)))
  chg : Chg w wc (fun k => k = G ∨ vm.ownBlock = some k)

theorem last_cell {w : World} {base g k cap : Nat} {xs : List Value} {u : Value} (h : w.ownsRow base 67 1 (.slice (some ⟨g, 0, none⟩) (k + 1) cap) (k + 1) (xs ++ [u])) : w.cell? ⟨g, k, none⟩ = some u := by
  have hl : xs.length = k := by have := h.1; simp at this; omega
  have := h.cells (g := g) rfl k u (by rw [List.getElem?_append_right (by omega)]; simp [hl])
  rwa [Addr.add_lit, Nat.zero_add] at this
theorem last_frozen {w : World} {base g k cap : Nat} {xs : List Value} (h : w.ownsRow base 67 1 (.slice (some ⟨g, 0, none⟩) (k + 1) cap) (k + 1) xs) : w.frozen? ⟨g, k, none⟩ = false := by
  rcases h.2 with ⟨h, _⟩ | ⟨g', cap', cur, h1, h2, h3, h4⟩
  · cases h
  · cases h1; exact frozen_of_block h3 k

/-- a new chunk has been made and appended -/
theorem mid_new (w w1 : World) (base G n : Nat) (f vm tx tm la : Value) (K : Nat) (xs : List Value) (box : Array Value) (gg cap : Nat) (ch : Array Value) (hchs : ch.size = 16384)
    (hG : w.heap[G]? = some (.cells #[f, vm, .int .i32 (n : Int), tx, tm, la] 61 (0, 0))) (hown : w.ownsRow base 67 1 vm K xs) (hGvm : vm.ownBlock ≠ some G) (hc : n % 4096 = 0)
    (hown1 : w1.ownsRow base 67 1 (.slice (some ⟨gg, 0, none⟩) (K + 1) cap) (K + 1) (xs ++ [.slice (some ⟨w.heap.size + 1, 0, none⟩) 0 4096]))
    (hgrow : (((w.alloc (.cells box 65)).alloc (.cells ch 65)).alloc (.cells #[.slice (some ⟨w.heap.size + 1, 0, none⟩) 0 4096] 67)).drew.grownBy w1 vm.ownBlock)
    (hat : vm.ownBlock = some gg ∨ gg = w.heap.size + 3) :
    ∃ g cap' K' c r cur xs', Mid w (w1.setCell ⟨G, 1, none⟩ (.slice (some ⟨gg, 0, none⟩) (K + 1) cap)) base G n f vm tx tm la box K xs g cap' K' c r cur xs' := by
  have lG : G < w.heap.size := (Array.getElem?_eq_some_iff.1 hG).1
  have hlt : ∀ k, vm.ownBlock = some k → k < w.heap.size := fun k hk => (hown.lt k hk).2
  have hggG : gg ≠ G := by
    rcases hat with h | h
    · rintro rfl; exact hGvm h
    · omega
  have hb : ∀ k o, (((w.alloc (.cells box 65)).alloc (.cells ch 65)).alloc (.cells #[.slice (some ⟨w.heap.size + 1, 0, none⟩) 0 4096] 67)).heap[k]? = some o → vm.ownBlock ≠ some k → w1.heap[k]? = some o := fun k o h hn =>
    (hgrow.block k (Array.getElem?_eq_some_iff.1 h).1 (Ne.symm hn)).trans h
  have hnew : ∀ k, w.heap.size ≤ k → vm.ownBlock ≠ some k := fun k hk e => by have := hlt k e; omega
  have hGb : w1.heap[G]? = some (.cells #[f, vm, .int .i32 (n : Int), tx, tm, la] 61 (0, 0)) := hb G _ (heap_old _ (heap_old _ (heap_old _ hG))) hGvm
  have hch : w1.heap[w.heap.size + 1]? = some (.cells ch 65 (0, 0)) := hb _ _ (heap_old _ (heap_new _ (by simp))) (hnew _ (by omega))
  have hbx : w1.heap[w.heap.size]? = some (.cells box 65 (0, 0)) := hb _ _ (heap_old _ (heap_old _ (heap_new _ rfl))) (hnew _ (by omega))
  refine ⟨gg, cap, K, w.heap.size + 1, 0, ch, xs, ?_⟩
  refine ⟨by rw [set_of_block hGb]; rfl, ?_, by omega, ?_, hchs, hggG, ?_, by omega, ?_, ?_, by omega, lG, .inl ⟨hc, rfl, rfl, rfl, by omega, ?_⟩, ?_⟩
  · refine ⟨hown1.1, ?_⟩
    rcases hown1.2 with ⟨h, _⟩ | ⟨g, cap', cur, h1, h2, h3, h4⟩
    · cases h
    · cases h1
      exact .inr ⟨gg, cap, cur, rfl, h2, by rw [Below.heap_setCell _ _ _ _ hggG]; exact h3, h4⟩
  · rw [Below.heap_setCell _ _ _ _ (by simp; omega)]; exact hch
  · rcases hat with h | h
    · have := hlt _ h; omega
    · omega
  · rw [Below.heap_setCell _ _ _ _ (by simp; omega)]; exact hbx
  · rcases hat with h | h
    · have := hlt _ h; omega
    · omega
  · rcases hat with h | h
    · exact .inl h
    · exact .inr (by omega)
  · exact ((((Chg.ofAlloc w _ _).alloc _).alloc _).drew.chain (Chg.ofGrown hgrow (fun k hk => .inr hk))).setCell _ _ (.inl rfl)

/-- the last chunk has room -/
theorem mid_old (w : World) (base G n : Nat) (f vm tx tm la : Value) (K' : Nat) (xs' : List Value) (box : Array Value) (c r : Nat) (cur : Array Value)
    (hG : w.heap[G]? = some (.cells #[f, vm, .int .i32 (n : Int), tx, tm, la] 61 (0, 0))) (hown : w.ownsRow base 67 1 vm (K' + 1) (xs' ++ [.slice (some ⟨c, 0, none⟩) r 4096])) (hGvm : vm.ownBlock ≠ some G) (hc : n % 4096 ≠ 0)
    (hr : r < 4096) (hcc : w.heap[c]? = some (.cells cur 65 (0, 0))) (hcs : cur.size = 16384) (hcG : c ≠ G) (hcv : vm.ownBlock ≠ some c) :
    ∃ g cap' K'' c' r' cur' xs'', Mid w (w.alloc (.cells box 65)) base G n f vm tx tm la box (K' + 1) (xs' ++ [.slice (some ⟨c, 0, none⟩) r 4096]) g cap' K'' c' r' cur' xs'' := by
  have lG : G < w.heap.size := (Array.getElem?_eq_some_iff.1 hG).1
  have lc : c < w.heap.size := (Array.getElem?_eq_some_iff.1 hcc).1
  obtain ⟨g, cap, rfl, hb, hg⟩ := hown.form (by omega)
  have hgG : g ≠ G := fun e => hGvm (by rw [e]; rfl)
  have hgc : g ≠ c := fun e => hcv (by rw [e]; rfl)
  exact ⟨g, cap, K', c, r, cur, xs', heap_old _ hG, hown.alloc _, hr, heap_old _ hcc, hcs, hgG, hgc, hcG, heap_new _ rfl, by omega, by omega, lG, .inr ⟨hc, rfl, rfl, rfl, hcc⟩, Chg.ofAlloc w _ _⟩

set_option maxRecDepth 100000 in
set_option maxHeartbeats 1000000 in
theorem add_any (w : World) (base G n : Nat) (f vm tx tm la : Value) (K : Nat) (xs : List Value) (l y t x : Int)
    (hG : w.heap[G]? = some (.cells #[f, vm, .int .i32 (n : Int), tx, tm, la] 61 (0, 0))) (hown : w.ownsRow base 67 1 vm K xs) (hGvm : vm.ownBlock ≠ some G) (hbase : base ≤ w.heap.size)
    (hn : n < 2147483647) (hK : K < 1000000)
    (hc : n % 4096 = 0 ∨ (n % 4096 ≠ 0 ∧ ∃ K' c r cur xs', K = K' + 1 ∧ xs = xs' ++ [.slice (some ⟨c, 0, none⟩) r 4096] ∧ r < 4096 ∧ w.heap[c]? = some (.cells cur 65 (0, 0)) ∧ cur.size = 16384 ∧ c ≠ G ∧ vm.ownBlock ≠ some c)) :
    Calls Try.prog 30 #[.pointer (some ⟨G, 0, none⟩), .agg #[.int .i32 l, .int .i16 y, .int .i32 t, .int .i32 x]] w fun e w' => e = .returned (.tuple #[]) ∧
      ∃ wc g cap K' c r cur xs' w1, Mid w wc base G n f vm tx tm la #[.int .i32 l, .int .i16 y, .int .i32 t, .int .i32 x] K xs g cap K' c r cur xs' ∧
        w1.heap[c]? = some (.cells (cur.toList.take (r * 4) ++ ([.int .i32 l, .int .i16 y, .int .i32 t, .int .i32 x] : List Value) ++ cur.toList.drop (r * 4 + 4)).toArray 65 (0, 0)) ∧ Chg wc w1 (fun k => k = c) ∧
        w' = (w1.setCell ⟨g, K', none⟩ (.slice (some ⟨c, 0, none⟩) (r + 1) 4096)).setCell ⟨G, 2, none⟩ (.int .i32 ((n : Int) + 1)) := by
  obtain ⟨i0, hi0, hz0, hz1, hz2⟩ := info_parts info65
  obtain ⟨i1, hi1, hy0, hy1, hy2⟩ := info_parts info67
  have lG : G < w.heap.size := (Array.getElem?_eq_some_iff.1 hG).1
  have c1 : w.cell? ⟨G, 1, none⟩ = some vm := cell_of_block hG 1
  have c2 : w.cell? ⟨G, 2, none⟩ = some (.int .i32 (n : Int)) := cell_of_block hG 2
  have f1 : w.frozen? ⟨G, 1, none⟩ = false := frozen_of_block hG 1
  go_enter Try.func30, Try.ntmps30
  go_upto_if 10 with fail
  obtain ⟨ch, hchs, hmk⟩ : ∃ ch : Array Value, ch.size = 16384 ∧ ∀ w, (Instr.makeSlice 67 (.int .i64 0) (.int .i64 4096)).run Try.prog w = .ok (.slice (some ⟨w.heap.size, 0, none⟩) 0 4096) (w.alloc (.cells ch 65)) := ⟨chunk0, chunk0_size, mk67⟩
  go_cut [] (fun w' => ∃ g cap K' c r cur xs', Mid w w' base G n f vm tx tm la #[.int .i32 l, .int .i16 y, .int .i32 t, .int .i32 x] K xs g cap K' c r cur xs')
  case first =>
    rcases hc with hc | ⟨hc, K', c, r, cur, xs', rfl, rfl, hr, hcc, hcs, hcG, hcv⟩
    · have hm : ((n : Int) % 4096 == 0) = true := by simp; omega
      go_wp2_with fail
      have k1 : ∀ o, (w.alloc o).cell? ⟨G, 1, none⟩ = some vm := fun o => cell_alloc c1 o
      have k2 : ∀ o o', ((w.alloc o).alloc o').cell? ⟨G, 1, none⟩ = some vm := fun o o' => cell_alloc (cell_alloc c1 o) o'
      have k3 : ∀ o o' o'', (((w.alloc o).alloc o').alloc o'').cell? ⟨G, 1, none⟩ = some vm := fun o o' o'' => cell_alloc (cell_alloc (cell_alloc c1 o) o') o''
      go_region_law
        ((refine step_append_lies _ (by rfl) _ _ _ (by rfl) base 67 i1 _ 1 24 Try.underlying59 hi1 hy0 hy1 hy2 rfl (by omega) vm K xs (by rfl) (((hown.alloc _).alloc _).alloc _)
            ⟨w.heap.size + 2, 0, none⟩ 1 1 [.slice (some ⟨w.heap.size + 1, 0, none⟩) 0 4096] (by rfl) (by rfl) (World.news_of_block (cs := #[.slice (some ⟨w.heap.size + 1, 0, none⟩) 0 4096]) (t := 67) (fr := (0, 0)) (heap_new _ (by simp))) (by simp [Value.oneCell'])
            (by omega) (by unfold maxLen; omega) (by omega) (by simp; omega) (w.heap.size + 3) (by simp) ?_; intro gg cap w1 hown1 hgrow hat hlt; have f1w : w1.frozen? ⟨G, 1, none⟩ = false := (hgrow.frozen_far _ (by simp; omega) (Ne.symm hGvm)).trans (frozen_alloc (by simp; omega) (frozen_alloc (by simp; omega) (frozen_alloc lG f1 _) _) _); have c1w : w1.cell? ⟨G, 1, none⟩ = some vm := (hgrow.cell_far _ (by simp; omega) (Ne.symm hGvm)).trans (k3 _ _ _)))
      all_goals
        go_wp2_with fail
        go_meet
        case rel => exact mid_new w _ base G n f vm tx tm la K xs _ _ _ ch hchs hG hown hGvm hc ‹_› ‹_› ‹_›
    · have hm : ((n : Int) % 4096 == 0) = false := by simp; omega
      go_wp2_with fail
      go_meet
      case rel => exact mid_old w base G n f vm tx tm la K' xs' _ c r cur hG hown hGvm hc hr hcc hcs hcG hcv
  case rest =>
    obtain ⟨g, cap, K', c, r, cur, xs', M⟩ := hcut
    have hG' := M.hG
    have hbox := M.hbox
    have hch := M.chunk
    have e1 : wc.cell? ⟨G, 1, none⟩ = some (.slice (some ⟨g, 0, none⟩) (K' + 1) cap) := cell_of_block hG' 1
    have e2 : wc.cell? ⟨G, 2, none⟩ = some (.int .i32 (n : Int)) := cell_of_block hG' 2
    have e3 : wc.cell? ⟨g, K', none⟩ = some (.slice (some ⟨c, 0, none⟩) r 4096) := last_cell M.own
    have b0 : wc.cell? ⟨w.heap.size, 0, none⟩ = some (.int .i32 l) := cell_of_block hbox 0
    have b1 : wc.cell? ⟨w.heap.size, 1, none⟩ = some (.int .i16 y) := cell_of_block hbox 1
    have b2 : wc.cell? ⟨w.heap.size, 2, none⟩ = some (.int .i32 t) := cell_of_block hbox 2
    have b3 : wc.cell? ⟨w.heap.size, 3, none⟩ = some (.int .i32 x) := cell_of_block hbox 3
    have g1 : wc.frozen? ⟨G, 2, none⟩ = false := frozen_of_block hG' 2
    have g2 : wc.frozen? ⟨g, K', none⟩ = false := last_frozen M.own
    have q1 : (0 : Int) ≤ (K' : Int) + 1 - 1 := by omega
    have q2 : (K' : Int) + 1 - 1 < (K' : Int) + 1 := by omega
    have lg : g < wc.heap.size := World.block_lt_of_cell? wc _ e3
    have lG' : G < wc.heap.size := World.block_lt_of_cell? wc _ e1
    have lc : c < wc.heap.size := (Array.getElem?_eq_some_iff.1 hch).1
    have gG := M.gG
    have gc := M.gc
    have cG := M.cG
    have hr := M.rlt
    have hKK : K' < 1000000 := by rcases M.link with h | h <;> omega
    have HS : Hid (cur.size = 16384) := M.csz
    have HM : Hid _ := M
    clear M hc hown hG hGvm c1 c2 f1 hmk hG' hbox hy0 hy1 hy2 hi1
    have E3 : ∀ m o, ((wc.drewN m).alloc o).cell? ⟨g, K', none⟩ = some (.slice (some ⟨c, 0, none⟩) r 4096) := fun m o => cell_alloc (w := wc.drewN m) e3 o
    have E2 : ∀ m o, ((wc.drewN m).alloc o).cell? ⟨G, 2, none⟩ = some (.int .i32 (n : Int)) := fun m o => cell_alloc (w := wc.drewN m) e2 o
    have G1 : ∀ m o, ((wc.drewN m).alloc o).frozen? ⟨G, 2, none⟩ = false := fun m o => frozen_alloc (w := wc.drewN m) lG' g1 o
    have G2 : ∀ m o, ((wc.drewN m).alloc o).frozen? ⟨g, K', none⟩ = false := fun m o => frozen_alloc (w := wc.drewN m) lg g2 o
    go_wp2_with fail
    go_quiet (fail)
    go_wp2_with fail
    go_region_law
      ((refine step_append_row (by rfl) _ _ _ (by rfl) 65 i0 4 Try.underlying67 hi0 hz1 c r 4096 cur (by rfl) (heap_old (w := wc.drewN (nq + 1)) _ hch) ⟨wc.heap.size, 0, none⟩ 1 1 [.int .i32 l, .int .i16 y, .int .i32 t, .int .i32 x] (by rfl) (by rfl)
          (World.news_of_block (cs := #[.int .i32 l, .int .i16 y, .int .i32 t, .int .i32 x]) (t := 65) (fr := (0, 0)) (heap_new (w := wc.drewN (nq + 1)) _ rfl)) (by simp [Value.oneCell']) (by omega) (by have := HS.out; simp; omega) ?_
        intro w1 hrow hgrow hsize
        have c1w : w1.cell? ⟨g, K', none⟩ = some (.slice (some ⟨c, 0, none⟩) r 4096) := (hgrow.cell_far _ (by simp; omega) (by simpa using gc)).trans (E3 _ _)
        have c2w : w1.cell? ⟨G, 2, none⟩ = some (.int .i32 (n : Int)) := (hgrow.cell_far _ (by simp; omega) (by simpa using Ne.symm cG)).trans (E2 _ _)
        have f1w : w1.frozen? ⟨g, K', none⟩ = false := (hgrow.frozen_far _ (by simp; omega) (by simpa using gc)).trans (G2 _ _)
        have f2w : w1.frozen? ⟨G, 2, none⟩ = false := (hgrow.frozen_far _ (by simp; omega) (by simpa using Ne.symm cG)).trans (G1 _ _)))
    all_goals
      have HR : Hid _ := hrow
      clear hrow
      go_wp2
      go_end0
      exact ⟨rfl, wc, g, cap, K', c, r, cur, xs', w1, HM.out, HR.out, (((Chg.refl wc _).drewN (nq + 1)).alloc _).chain (Chg.ofGrown hgrow (fun k hk => (Option.some.inj hk).symm)), rfl⟩
end Go.Proofs.Qxb6000095a
