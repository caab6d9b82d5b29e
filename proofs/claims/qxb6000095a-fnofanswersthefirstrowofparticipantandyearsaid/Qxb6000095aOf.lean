import Derived.Test.Qxb6000095aCalls2
import Derived.Test.Qxb6000095aNumbers
import Derived.Test.Qxb6000095aFRows
namespace Go.Proofs.Qxb6000095a
open Go.RowKit
set_option linter.unusedSimpArgs false
set_option linter.unusedVariables false
attribute [local go_sem ↓] Go.wp_at_zero Go.wp_at_succ

/-- the first of the d rows from i on whose participant is s -/
def fstFrom (PA : Nat → ByteArray) : Nat → Nat → ByteArray → Option Int
  | 0, _, _ => none
  | d + 1, i, s => if s = PA i then some (i : Int) else fstFrom PA d (i + 1) s
def fst (PA : Nat → ByteArray) (n i : Nat) : ByteArray → Option Int := fstFrom PA (n - i) i
def nxt (PA : Nat → ByteArray) (n i : Nat) : Int := (fst PA n (i + 1) (PA i)).getD 0

theorem fst_end (PA : Nat → ByteArray) (n : Nat) : fst PA n n = fun _ => none := by
  funext s; simp [fst, fstFrom]
theorem fst_step (PA : Nat → ByteArray) {n i : Nat} (h : i < n) : fst PA n i = upd (fst PA n (i + 1)) (PA i) (i : Int) := by
  funext s
  unfold fst upd
  rw [show n - i = (n - (i + 1)) + 1 by omega]
  rfl
theorem fstFrom_some {PA : Nat → ByteArray} {d i : Nat} {s : ByteArray} {v : Int} (h : fstFrom PA d i s = some v) : ∃ j : Nat, v = (j : Int) ∧ i ≤ j ∧ j < i + d ∧ PA j = s ∧ ∀ k, i ≤ k → k < j → PA k ≠ s := by
  induction d generalizing i with
  | zero => simp [fstFrom] at h
  | succ d ih =>
    simp only [fstFrom] at h
    split at h
    · rename_i e; cases h; exact ⟨i, rfl, Nat.le_refl _, by omega, e.symm, fun k h1 h2 => by omega⟩
    · rename_i e
      obtain ⟨j, h1, h2, h3, h4, h5⟩ := ih h
      refine ⟨j, h1, by omega, by omega, h4, fun k hk hj => ?_⟩
      by_cases ek : k = i
      · subst ek; exact fun h => e h.symm
      · exact h5 k (by omega) hj
theorem fstFrom_none {PA : Nat → ByteArray} {d i : Nat} {s : ByteArray} (h : fstFrom PA d i s = none) : ∀ k, i ≤ k → k < i + d → PA k ≠ s := by
  induction d generalizing i with
  | zero => intro k h1 h2; omega
  | succ d ih =>
    simp only [fstFrom] at h
    split at h
    · cases h
    · rename_i e
      intro k h1 h2
      by_cases ek : k = i
      · subst ek; exact fun h => e h.symm
      · exact ih h k (by omega) (by omega)
theorem fst_some {PA : Nat → ByteArray} {n i : Nat} {s : ByteArray} {v : Int} (hi : i ≤ n) (h : fst PA n i s = some v) : ∃ j : Nat, v = (j : Int) ∧ i ≤ j ∧ j < n ∧ PA j = s ∧ ∀ k, i ≤ k → k < j → PA k ≠ s := by
  obtain ⟨j, h1, h2, h3, h4, h5⟩ := fstFrom_some h
  exact ⟨j, h1, h2, by omega, h4, h5⟩
theorem fst_none {PA : Nat → ByteArray} {n i : Nat} {s : ByteArray} (hi : i ≤ n) (h : fst PA n i s = none) : ∀ k, i ≤ k → k < n → PA k ≠ s := by
  intro k h1 h2
  exact fstFrom_none h k h1 (by omega)

/-- the text's number -/
def tnum (GR : Nat → ByteArray) (i : Nat) : Int := (rk (dis GR i) (GR i) : Int)
theorem dis_mono (GR : Nat → ByteArray) {i k : Nat} (h : i ≤ k) {j : Nat} {t : ByteArray} (hj : (dis GR i)[j]? = some t) : (dis GR k)[j]? = some t := by
  induction k with
  | zero =>
    obtain rfl : i = 0 := by omega
    exact hj
  | succ k ih =>
    by_cases e : i = k + 1
    · subst e; exact hj
    · have := ih (by omega)
      simp only [dis, addT]
      split
      · exact this
      · rw [List.getElem?_append_left (List.getElem?_eq_some_iff.1 this).1]; exact this
theorem dis_get (GR : Nat → ByteArray) {i k : Nat} (h : i < k) : (dis GR k)[rk (dis GR i) (GR i)]? = some (GR i) := by
  refine dis_mono GR (i := i + 1) h ?_
  simp only [dis, addT]
  split
  · rename_i e; exact rk_get e
  · rename_i e
    have := rk_le (dis GR i) (GR i)
    rw [show rk (dis GR i) (GR i) = (dis GR i).length by omega]
    simp

/-- what Of answers: the first row of participant p and the year, or none -/
def Found (n : Nat) (PA : Nat → ByteArray) (YR : Nat → Int) (GR : Nat → ByteArray) (LN : Nat → Int) (p : ByteArray) (year : Int) (g : ByteArray) (l : Int) (b : Bool) : Prop :=
  (b = true ∧ ∃ j, j < n ∧ PA j = p ∧ YR j = year ∧ (∀ i, i < j → ¬ (PA i = p ∧ YR i = year)) ∧ g = GR j ∧ l = LN j) ∨
  (b = false ∧ g = ⟨#[]⟩ ∧ l = 0 ∧ ∀ i, i < n → ¬ (PA i = p ∧ YR i = year))

/-- ZZB1SetFirst -/
theorem f11_any (w : World) (G F c : Nat) (vm ct tx tm la : Value) (q : ByteArray → Option Int) (hM : SMap w F c q) (hG : w.heap[G]? = some (.cells #[.map (some F), vm, ct, tx, tm, la] 61 (0, 0))) (s : ByteArray) (hs : s.size ≤ 1048576) (v : Int) (h0 : 0 ≤ v) (h1 : v ≤ 2147483647) (hc : c ≤ 1048576) :
    Calls Try.prog 11 #[.pointer (some ⟨G, 0, none⟩), .string s, .int .i32 v] w fun e w' => e = .returned (.tuple #[]) ∧ ∃ c', c' ≤ c + 1 ∧ SMap w' F c' (upd q s v) ∧ Chg w w' (fun k => k = F) := by
  have c0 : w.cell? ⟨G, 0, none⟩ = some (.map (some F)) := cell_of_block hG 0
  have HM := hide hM
  have hwf : (Lit.int .i32 v).wf = true := wf_i32 (by omega) h1
  obtain ⟨c', hc'⟩ : ∃ c', (if (q s).isSome then c else c + 1) = c' := ⟨_, rfl⟩
  have hcl : c' ≤ c + 1 := by rw [← hc']; split <;> omega
  have HC := hide hc'
  clear hG hM hc'
  go_enter Try.func11, Try.ntmps11
  go_wp2_with (at_mapUpdate; refine wpList_smap_store _ rfl _ _ _ rfl F c q rfl HM.out (by unfold maxLen; omega) s (by unfold maxLen; omega) v rfl rfl hwf c' HC.out ?_)
  intro w' hm hg
  have HM' := hide hm
  have HG' := hide hg
  clear hm hg
  go_wp2
  go_end0
  exact ⟨rfl, c', hcl, HM'.out, Chg.ofGrown HG'.out (fun k h => (Option.some.inj h).symm)⟩

/-- how far Of's loop has to go -/
def mOf (n : Nat) (i ok : Value) : Nat := match ok with | .bool true => n + 1 - (intOf i).toNat | _ => 0

/-- where Of's loop stands -/
def OfAt (n : Nat) (PA : Nat → ByteArray) (YR : Nat → Int) (p : ByteArray) (year : Int) (i ok : Value) : Prop :=
  (∃ j : Nat, j < n ∧ i = .int .i32 j ∧ ok = .bool true ∧ PA j = p ∧ ∀ k, k < j → ¬ (PA k = p ∧ YR k = year)) ∨
  (i = .int .i32 0 ∧ ok = .bool false ∧ ∀ k, k < n → ¬ (PA k = p ∧ YR k = year))

theorem ofAt_start (n : Nat) (PA : Nat → ByteArray) (YR : Nat → Int) (p : ByteArray) (year : Int) : OfAt n PA YR p year (.int .i32 ((fst PA n 0 p).getD 0)) (.bool (fst PA n 0 p).isSome) := by
  cases h : fst PA n 0 p with
  | none => exact .inr ⟨rfl, rfl, fun k hk hq => fst_none (Nat.zero_le _) h k (Nat.zero_le _) hk hq.1⟩
  | some v =>
    obtain ⟨j, rfl, _, h3, h4, h5⟩ := fst_some (Nat.zero_le _) h
    exact .inl ⟨j, h3, rfl, rfl, h4, fun k hk hq => h5 k (Nat.zero_le _) hk hq.1⟩

theorem ofAt_next {n : Nat} {PA : Nat → ByteArray} {YR : Nat → Int} {p : ByteArray} {year : Int} {j : Nat} (hj : j < n) (hp : PA j = p) (hy : YR j ≠ year) (hb : ∀ k, k < j → ¬ (PA k = p ∧ YR k = year)) :
    OfAt n PA YR p year (.int .i32 (nxt PA n j)) (.bool (nxt PA n j != 0)) ∧ mOf n (.int .i32 (nxt PA n j)) (.bool (nxt PA n j != 0)) < mOf n (.int .i32 (j : Int)) (.bool true) := by
  unfold nxt
  cases h : fst PA n (j + 1) (PA j) with
  | none =>
    refine ⟨.inr ⟨rfl, by simp, fun k hk hq => ?_⟩, by simp [mOf, intOf]; omega⟩
    by_cases e1 : k < j
    · exact hb k e1 hq
    · by_cases e2 : k = j
      · subst e2; exact hy hq.2
      · exact fst_none (by omega) h k (by omega) hk (by rw [hp]; exact hq.1)
  | some v =>
    obtain ⟨j', rfl, h2, h3, h4, h5⟩ := fst_some (by omega) h
    have hne : ((j' : Int) != 0) = true := by simp; omega
    refine ⟨.inl ⟨j', h3, rfl, by simp only [Option.getD_some, hne], by rw [h4, hp], fun k hk hq => ?_⟩, by simp only [Option.getD_some, hne, mOf, intOf]; omega⟩
    by_cases e1 : k < j
    · exact hb k e1 hq
    · by_cases e2 : k = j
      · subst e2; exact hy hq.2
      · exact h5 k (by omega) hk (by rw [hp]; exact hq.1)

theorem cell_far {w : World} {a p : Addr} {v : Value} (h : w.cell? a = some v) (hne : a.block ≠ p.block) (u : Value) : (w.setCell p u).cell? a = some v :=
  (World.cell?_of_block (w := w) (Below.heap_setCell w p u a.block hne)).trans h

/-- the four cells of mark i -/
theorem Marks.cells {w : World} {base G : Nat} {vm : Value} {cbs : List Nat} {n : Nat} {L Y T N : Nat → Int} (M : Marks w base G vm cbs n L Y T N) {i : Nat} (hi : i < n) :
    w.cell? ⟨cbs.getD (i / 4096) 0, i % 4096 * 4, none⟩ = some (.int .i32 (L i)) ∧ w.cell? ⟨cbs.getD (i / 4096) 0, i % 4096 * 4 + 1, none⟩ = some (.int .i16 (Y i)) ∧
    w.cell? ⟨cbs.getD (i / 4096) 0, i % 4096 * 4 + 2, none⟩ = some (.int .i32 (T i)) ∧ w.cell? ⟨cbs.getD (i / 4096) 0, i % 4096 * 4 + 3, none⟩ = some (.int .i32 (N i)) := by
  have cnt := M.cnt
  obtain ⟨cur, h1, h2, h3⟩ := M.blk (i / 4096) (by omega)
  obtain ⟨q0, q1, q2, q3⟩ := h3 (i % 4096) (by unfold cl; omega)
  rw [show 4096 * (i / 4096) + i % 4096 = i by omega] at q0 q1 q2 q3
  exact ⟨(cell_of_block h1 _).trans q0, (cell_of_block h1 _).trans q1, (cell_of_block h1 _).trans q2, (cell_of_block h1 _).trans q3⟩

set_option maxRecDepth 100000 in
set_option maxHeartbeats 1000000 in
/-- (*Grades).Of -/
theorem f14_any (w : World) (base G F Tb c n : Nat) (vm ct vt la : Value) (cbs : List Nat) (PA : Nat → ByteArray) (YR : Nat → Int) (GR : Nat → ByteArray) (LN : Nat → Int) (p : ByteArray) (year : Int)
    (M : Marks w base G vm cbs n LN YR (tnum GR) (nxt PA n)) (hn : n ≤ 32768) (X : w.ownsRow base 9 1 vt (dis GR n).length ((dis GR n).map .string)) (hM : SMap w F c (fst PA n 0))
    (hG : w.heap[G]? = some (.cells #[.map (some F), vm, ct, vt, .map (some Tb), la] 61 (0, 0))) (hp : p.size ≤ 1048576) (hf : FFit n PA YR GR LN) :
    Calls Try.prog 14 #[.pointer (some ⟨G, 0, none⟩), .string p, .int .i64 year] w fun e w' => ∃ g l b, e = .returned (.tuple #[.agg #[.string g, .int .i64 l], .bool b]) ∧ Found n PA YR GR LN p year g l b ∧ Chg w w' (fun _ => False) := by
  have hl := fun (o : Obj) => (hM.chg (Chg.ofAlloc w o (fun _ => False)) id).look (s := p) (by unfold maxLen; omega)
  have c0 : w.cell? ⟨G, 0, none⟩ = some (.map (some F)) := cell_of_block hG 0
  have lG : G < w.heap.size := (Array.getElem?_eq_some_iff.1 hG).1
  have HM := hide M
  have HX := hide X
  have HG := hide hG
  have HF := hide hf
  have HS := hide (ofAt_start n PA YR p year)
  generalize (fst PA n 0 p).getD 0 = i0 at *
  generalize (fst PA n 0 p).isSome = b0 at *
  clear M X hG hM hf
  go_enter Try.func14, Try.ntmps14
  go_wp2_with fail
  go_loopw [8, 9] (fun i ok wr => OfAt n PA YR p year i ok ∧ Chg w wr (fun _ => False) ∧ wr.heap[w.heap.size]? = some (.cells #[.string ⟨#[]⟩, .int .i64 0] 38 (0, 0))) (fun i ok _ => mOf n i ok)
  case atStart => exact ⟨HS.out, Chg.ofAlloc _ _ _, heap_new _ rfl⟩
  case round =>
    obtain ⟨hat, hch, hres⟩ := hrel
    rcases hat with ⟨j, hj, rfl, rfl, hpj, hbj⟩ | ⟨rfl, rfl, hno⟩
    · have H31 := hide (f31_marks wr base G n j (.map (some F)) vm ct vt (.map (some Tb)) la cbs LN YR (tnum GR) (nxt PA n) (HM.out.chg hch (fun _ _ => id)) hn hj (hch.heap HG.out id))
      obtain ⟨e0, e1, e2, e3⟩ := (HM.out.chg hch (fun _ _ => id)).cells hj
      obtain ⟨_, _, y0, y1, l0, l1⟩ := HF.out j hj
      obtain ⟨cb, hcb⟩ : ∃ cb, cbs.getD (j / 4096) 0 = cb := ⟨_, rfl⟩
      obtain ⟨o, ho⟩ : ∃ o, j % 4096 * 4 = o := ⟨_, rfl⟩
      rw [hcb, ho] at H31 e0 e1 e2 e3
      have lcb : cb < wr.heap.size := World.block_lt_of_cell? wr _ e0
      have HPJ := hide hpj
      have HBJ := hide hbj
      have HCH := hide hch
      have HRES := hide hres
      by_cases hy : YR j = year
      · have HY := hide hy
        have hlt := (List.getElem?_eq_some_iff.1 (dis_get GR hj)).1
        obtain ⟨g, cap', hv', _, hgl⟩ := HX.out.form (by omega)
        have hG' := hch.heap HG.out id
        have t0 : wr.cell? ⟨G, 3, none⟩ = some (.slice (some ⟨g, 0, none⟩) (dis GR n).length cap') := by rw [cell_of_block hG', hv']; rfl
        have t1 : wr.cell? ⟨g, rk (dis GR j) (GR j), none⟩ = some (.string (GR j)) := by
          have hh := (ownsRow_chg9 HX.out hch (fun _ _ => id)).cells (g := g) (by rw [hv']; rfl) (rk (dis GR j) (GR j)) (.string (GR j)) (by simp [dis_get GR hj])
          rwa [Addr.add_lit, Nat.zero_add] at hh
        have e2' : wr.cell? ⟨cb, o + 2, none⟩ = some (.int .i32 ((rk (dis GR j) (GR j) : Nat) : Int)) := e2
        have r0 : wr.cell? ⟨w.heap.size, 0, none⟩ = some (.string ⟨#[]⟩) := cell_of_block hres 0
        have r1 : wr.cell? ⟨w.heap.size, 1, none⟩ = some (.int .i64 0) := cell_of_block hres 1
        have r2 : wr.frozen? ⟨w.heap.size, 0, none⟩ = false := frozen_of_block hres 0
        have r3 : wr.frozen? ⟨w.heap.size, 1, none⟩ = false := frozen_of_block hres 1
        have lg : g ≠ w.heap.size := by omega
        have lG2 : G ≠ w.heap.size := by omega
        have lcb2 : cb ≠ w.heap.size := by
          have h1 := (HM.out.cells hj).1
          rw [hcb] at h1
          have := World.block_lt_of_cell? w _ h1
          simp at this; omega
        have HFD := hide (show Found n PA YR GR LN p year (GR j) (LN j) true from .inl ⟨rfl, j, hj, hpj, hy, hbj, rfl, rfl⟩)
        have hyb : (YR j == year) = true := by simp [hy]
        clear e2 e3 hpj hbj hch hres hcb ho hG' hv' hgl HM HX HG HF hl c0
        generalize rk (dis GR j) (GR j) = tj at *
        generalize (dis GR n).length = m at *
        generalize hgj : GR j = gj at *
        generalize hlj : LN j = lj at *
        have p1 : (0 : Int) ≤ (tj : Int) := by omega
        have p2 : (tj : Int) < (m : Int) := by omega
        clear hgj hlj
        generalize YR j = yj at *
        clear hy
        have hwl : IntKind.i64.wrap lj = lj := by rw [IntKind.wrap_i64]; omega
        go_wp2_with fail
        refine H31.out.mono ?_
        rintro e wb ⟨rfl, hwb⟩
        subst hwb
        go_wp2_with fail
        go_region_held3 (fun w' => w'.cell? ⟨G, 3, none⟩ = some (.slice (some ⟨g, 0, none⟩) m cap') ∧ w'.cell? ⟨g, tj, none⟩ = some (.string gj) ∧ w'.cell? ⟨cb, o + 2, none⟩ = some (.int .i32 (tj : Int)) ∧ w'.cell? ⟨cb, o, none⟩ = some (.int .i32 lj)) (first | (exact ⟨cell_drew (cell_far (cell_far t0 lG2 _) lG2 _), cell_drew (cell_far (cell_far t1 lg _) lg _), cell_drew (cell_far (cell_far e2' lcb2 _) lcb2 _), cell_drew (cell_far (cell_far e0 lcb2 _) lcb2 _)⟩) | go_keep) (fail)
        go_wp2
        have hb1 := set_of_block (set_of_block HRES.out 0 (.string gj)) 1 (.int .i64 lj)
        have k0 := cell_of_block hb1 0
        have k1 := cell_of_block hb1 1
        simp at k0 k1
        refine bodyPost_ret (v := .tuple #[.agg #[.string gj, .int .i64 lj], .bool true]) (by simp [results, Try.results14, go_sem, k0, k1]) rfl ⟨_, _, _, rfl, HFD.out, ?_⟩
        exact (HCH.out.trans ((Chg.ofSet wb ⟨w.heap.size, 0, none⟩ (.string gj) (S := fun k => w.heap.size ≤ k) (Nat.le_refl _)).setCell ⟨w.heap.size, 1, none⟩ (.int .i64 lj) (Nat.le_refl _)) (fun _ _ h => h) (fun k hk h => by omega)).drew
      · have hyb : (YR j == year) = false := by simp [hy]
        have HY := hide hy
        have HN := hide (ofAt_next hj hpj hy hbj)
        clear hy hpj hbj hch hres hcb ho
        generalize YR j = yj at *
        go_wp2_with fail
        refine H31.out.mono ?_
        rintro e wb ⟨rfl, hwb⟩
        subst hwb
        go_wp2_with fail
        go_quiet (fail)
        go_wp2
        exact ⟨⟨HN.out.1, HCH.out.drewN _, HRES.out⟩, HN.out.2⟩
    · have HCH := hide hch
      have HNO := hide hno
      have r0 : wr.cell? ⟨w.heap.size, 0, none⟩ = some (.string ⟨#[]⟩) := cell_of_block hres 0
      have r1 : wr.cell? ⟨w.heap.size, 1, none⟩ = some (.int .i64 0) := cell_of_block hres 1
      have r2 : wr.frozen? ⟨w.heap.size, 0, none⟩ = false := frozen_of_block hres 0
      have r3 : wr.frozen? ⟨w.heap.size, 1, none⟩ = false := frozen_of_block hres 1
      have HRES := hide hres
      clear hch hno hres
      go_wp2
      have hb1 := set_of_block (set_of_block HRES.out 0 (.string ⟨#[]⟩)) 1 (.int .i64 0)
      have k0 := cell_of_block hb1 0
      have k1 := cell_of_block hb1 1
      simp at k0 k1
      refine bodyPost_ret (v := .tuple #[.agg #[.string ⟨#[]⟩, .int .i64 0], .bool false]) (by simp [results, Try.results14, go_sem, k0, k1]) rfl ⟨_, _, _, rfl, .inr ⟨rfl, rfl, rfl, HNO.out⟩, ?_⟩
      refine HCH.out.trans ((Chg.ofSet wr ⟨w.heap.size, 0, none⟩ (.string ⟨#[]⟩) (S := fun k => w.heap.size ≤ k) (Nat.le_refl _)).setCell ⟨w.heap.size, 1, none⟩ (.int .i64 0) (Nat.le_refl _)) (fun _ _ h => h) (fun k hk h => by omega)

end Go.Proofs.Qxb6000095a
