import Derived.Test.Qxb6000095aTexts
import Derived.Test.Qxb6000095aHead
import Derived.Deep.QuietTactic
import Derived.BigQuiet
namespace Go.Proofs.Qxb6000095a
open Go.RowKit
set_option linter.unusedSimpArgs false
set_option linter.unusedVariables false

/-- the distinct texts among the first k -/
def dis (ss : Nat → ByteArray) : Nat → List ByteArray
  | 0 => []
  | k + 1 => addT (dis ss k) (ss k)

theorem dis_len (ss : Nat → ByteArray) (k : Nat) : (dis ss k).length ≤ k := by
  induction k with
  | zero => simp [dis]
  | succ k ih =>
    simp only [dis, addT]
    split
    · omega
    · rw [List.length_append]; simp; omega

theorem dis_hit {ss : Nat → ByteArray} {k : Nat} (h : rk (dis ss k) (ss k) < (dis ss k).length) : (dis ss (k + 1)).length = (dis ss k).length := by simp [dis, addT, h]
theorem dis_miss {ss : Nat → ByteArray} {k : Nat} (h : ¬ rk (dis ss k) (ss k) < (dis ss k).length) : (dis ss (k + 1)).length = (dis ss k).length + 1 := by simp [dis, addT, h]

theorem dis_uniq (ss : Nat → ByteArray) (k : Nat) : ∀ j t, (dis ss k)[j]? = some t → rk (dis ss k) t = j := by
  induction k with
  | zero => intro j t h; simp [dis] at h
  | succ k ih =>
    intro j t h
    simp only [dis, addT] at h ⊢
    split at h
    · rename_i hin; rw [if_pos hin]; exact ih j t h
    · rename_i hin
      rw [if_neg hin, rk_snoc]
      by_cases hj : j < (dis ss k).length
      · rw [List.getElem?_append_left hj] at h
        have := ih j t h
        rw [if_pos (by omega), this]
      · rw [List.getElem?_append_right (by omega)] at h
        obtain ⟨e1, e2⟩ : j = (dis ss k).length ∧ ss k = t := by
          have hl := (List.getElem?_eq_some_iff.1 h).1
          simp at hl
          have : j = (dis ss k).length := by omega
          subst this
          simp at h
          exact ⟨rfl, h⟩
        subst e2
        rw [if_neg hin, if_pos rfl, e1]

theorem mk54c (n : Nat) (h : n ≤ 1048576) : ∃ cur : Array Value, cur.size = n ∧ ∀ w : World, (Instr.makeSlice 54 (.int .i64 0) (.int .i64 (n : Int))).run Try.prog w =
    .ok (.slice (some ⟨w.heap.size, 0, none⟩) 0 n) (w.alloc (.cells cur 9)) := by
  obtain ⟨i, hi, hz0, hz1, hz2⟩ := info_parts info9
  refine ⟨madeCells #[.string ⟨#[]⟩] (n * 1), by rw [size_madeCells]; omega, fun w => ?_⟩
  have := run_make (P := Try.prog) w 54 9 i _ Try.underlying54 hi hz0 .i64 .i64 0 (n : Int) (by omega) (by omega) (by rw [hz2]; omega) (by omega)
  rw [hz1] at this
  simpa [Value.cells] using this

structure Rel6 (w0 wr : World) (base G P F Tb len k : Nat) (ss : Nat → ByteArray) (vt : Value) : Prop where
  texts : Texts wr base G Tb vt (dis ss k)
  hG : wr.heap[G]? = some (.cells #[.map (some F), .slice none 0 0, .int .i32 0, vt, .map (some Tb), .int .i64 0] 61 (0, 0))
  dist : wr.ownsRow 0 9 1 (.slice (some ⟨P, 0, none⟩) (dis ss k).length len) (dis ss k).length ((dis ss k).map .string)
  chg : Chg w0 wr (fun k => k = G ∨ k = Tb ∨ k = P ∨ base ≤ k)
  bs : w0.heap.size = base
  Gb : G < base
  Pb : P < base
  Tb' : Tb < base
  GP : G ≠ P
  TP : Tb ≠ P

theorem ownsRow_chg9 {w w' : World} {base n : Nat} {v : Value} {xs : List Value} (h : w.ownsRow base 9 1 v n xs) {S : Nat → Prop} (hc : Chg w w' S) (hS : ∀ k, v.ownBlock = some k → ¬ S k) : w'.ownsRow base 9 1 v n xs := by
  refine ⟨h.1, ?_⟩
  rcases h.2 with hv | ⟨g', cap', cur, e1, e2, e3, e4⟩
  · exact .inl hv
  · exact .inr ⟨g', cap', cur, e1, e2, hc.heap e3 (hS _ (by rw [e1]; rfl)), e4⟩

theorem rel6_dist {w0 wr wa : World} {base G P F Tb len k : Nat} {ss : Nat → ByteArray} {vt vt' : Value} {ys : List ByteArray} (D : Rel6 w0 wr base G P F Tb len k ss vt)
    (A : Interned wr wa base G Tb (.map (some F)) (.slice none 0 0) (.int .i32 0) (.int .i64 0) vt ys vt') :
    wa.ownsRow 0 9 1 (.slice (some ⟨P, 0, none⟩) (dis ss k).length len) (dis ss k).length ((dis ss k).map .string) := by
  refine ownsRow_chg9 D.dist A.chg ?_
  intro j hj
  obtain rfl : P = j := Option.some.inj hj
  rintro (e | e | e)
  · exact D.GP e.symm
  · exact D.TP e.symm
  · have := (D.texts.row.lt _ e).1; have := D.Pb; omega

theorem rel6_chg {w0 wr wa wb : World} {base G P F Tb len k : Nat} {ss : Nat → ByteArray} {vt vt' : Value} {ys : List ByteArray} (D : Rel6 w0 wr base G P F Tb len k ss vt)
    (A : Interned wr wa base G Tb (.map (some F)) (.slice none 0 0) (.int .i32 0) (.int .i64 0) vt ys vt') (hb : Chg wa wb (fun k => k = P)) : Chg w0 wb (fun k => k = G ∨ k = Tb ∨ k = P ∨ base ≤ k) := by
  refine D.chg.trans (A.chg.trans hb (S'' := fun k => k = G ∨ k = Tb ∨ k = P ∨ base ≤ k) ?_ ?_) (fun _ _ h => h) (fun _ _ h => h)
  · rintro j _ (e | e | e)
    · exact .inl e
    · exact .inr (.inl e)
    · exact .inr (.inr (.inr (D.texts.row.lt _ e).1))
  · intro j _ e; exact .inr (.inr (.inl e))

theorem rel6_hit {w0 wr wa wb : World} {base G P F Tb len k : Nat} {ss : Nat → ByteArray} {vt vt' : Value} (D : Rel6 w0 wr base G P F Tb len k ss vt)
    (A : Interned wr wa base G Tb (.map (some F)) (.slice none 0 0) (.int .i32 0) (.int .i64 0) vt (addT (dis ss k) (ss k)) vt') (hb : Chg wa wb (fun _ => False)) (hin : rk (dis ss k) (ss k) < (dis ss k).length) :
    Rel6 w0 wb base G P F Tb len (k + 1) ss vt' := by
  have e : dis ss (k + 1) = dis ss k := by simp [dis, addT, hin]
  refine ⟨A.texts.chg hb id (fun _ _ => id), hb.heap A.hG id, ?_, rel6_chg D A (hb.mono (fun _ _ h => h.elim)), D.bs, D.Gb, D.Pb, D.Tb', D.GP, D.TP⟩
  rw [e]
  exact ownsRow_chg9 (rel6_dist D A) hb (fun _ _ => id)

theorem rel6_miss {w0 wr wa wb : World} {base G P F Tb len k : Nat} {ss : Nat → ByteArray} {vt vt' : Value} (D : Rel6 w0 wr base G P F Tb len k ss vt)
    (A : Interned wr wa base G Tb (.map (some F)) (.slice none 0 0) (.int .i32 0) (.int .i64 0) vt (addT (dis ss k) (ss k)) vt') (hb : Chg wa wb (fun k => k = P)) (hin : ¬ rk (dis ss k) (ss k) < (dis ss k).length)
    (ho : wb.ownsRow 0 9 1 (.slice (some ⟨P, 0, none⟩) ((dis ss k).length + 1) len) ((dis ss k).length + 1) ((dis ss k).map .string ++ [.string (ss k)])) :
    Rel6 w0 wb base G P F Tb len (k + 1) ss vt' := by
  have e : dis ss (k + 1) = dis ss k ++ [ss k] := by simp [dis, addT, hin]
  have hPb := D.Pb
  refine ⟨A.texts.chg hb D.TP ?_, hb.heap A.hG D.GP, ?_, rel6_chg D A hb, D.bs, D.Gb, D.Pb, D.Tb', D.GP, D.TP⟩
  · rintro j hj rfl
    have := (A.texts.row.lt _ hj).1; omega
  · rw [e]; simpa using ho

theorem rk_at {xs : List ByteArray} {t : ByteArray} {i : Nat} (h : xs[i]? = some t) (hi : i ≤ rk xs t) : rk xs t = i :=
  rk_first h (fun j hj => rk_before (by omega))
theorem rk_past {xs : List ByteArray} {t s : ByteArray} {i : Nat} (h : xs[i]? = some t) (hi : i ≤ rk xs s) (hne : t ≠ s) : i + 1 ≤ rk xs s := by
  rcases Nat.lt_or_ge i (rk xs s) with hlt | hge
  · omega
  · exfalso
    have e : rk xs s = i := by omega
    have hlen : i < xs.length := (List.getElem?_eq_some_iff.1 h).1
    have := rk_get (xs := xs) (s := s) (by omega)
    rw [e, h] at this
    exact hne (Option.some.inj this)
theorem beq_bytes (a b : ByteArray) : (a.toList == b.toList) = decide (a = b) := by
  rw [ByteArray.toList_eq, ByteArray.toList_eq]
  by_cases h : a = b
  · subst h; simp
  · simp only [h, decide_false]
    exact beq_eq_false_iff_ne.2 (fun e => h (data_inj e))

set_option maxRecDepth 100000 in
set_option maxHeartbeats 1000000 in
theorem f6_core (w : World) (a : Option Addr) (len cap : Nat) (ss : Nat → ByteArray) (h : IsStrs w a len cap ss) (hlen : len ≤ 4096) (hsz : ∀ i, i < len → (ss i).size ≤ 1048576) :
    Calls Try.prog 6 #[.slice a len cap] w fun e w' => e = .returned (.bool true) ∧ Below w.heap.size w w' := by
  have H24 := hide (f24_any w a len cap ss h (by omega) hsz)
  have H25 := hide (f25_any w a len cap ss h (by omega))
  have HS := hide hsz
  have hd2 : decide ((4096 : Int) < (len : Int)) = false := by simp; omega
  obtain ⟨cur0, hcs0, hmk⟩ := mk54c len (by omega)
  obtain ⟨i9, hi, hz0, hz1, hz2⟩ := info_parts info9
  have HF := hide (f23_any w a len cap ss h)
  clear h hsz
  go_enter Try.func6, Try.ntmps6
  go_wp2_with fail
  refine HF.out.mono ?_
  rintro e w' ⟨rfl, r, rfl, _⟩
  cases r with
  | false =>
    go_wp2
    go_ret
    exact ⟨rfl, Below.refl _ _⟩
  | true =>
  go_wp2_with fail
  refine H24.out.mono ?_
  rintro e w' ⟨rfl, r, rfl, _⟩
  cases r with
  | true =>
    go_wp2
    go_ret
    exact ⟨rfl, Below.refl _ _⟩
  | false =>
  go_wp2_with fail
  refine H25.out.mono ?_
  rintro e w1 ⟨ar, R, rfl, hrow, hR, hch1⟩
  go_wp2_with fail
  refine (f10_abs w1).mono ?_
  rintro e w2 ⟨G, F, Tm, rfl, hG, hF, hT, h1, h2, h3, h4, h5, h6, hch2⟩
  clear H24 H25 HF
  go_wp2_with fail
  have r1 : Strung (w2.alloc (.cells cur0 9)) ar R len ss := (hrow.chg hch2 id).chg (Chg.ofAlloc _ _ (fun _ => False)) id
  have r2 := heap_old (.cells cur0 9) hG
  have r2T := heap_old (.cells cur0 9) hT
  have r3 := heap_new (w := w2) (.cells cur0 9) rfl
  have r4 : Chg w' (w2.alloc (.cells cur0 9)) (fun _ => False) := (hch1.chain hch2).alloc _
  have r5 : (w2.alloc (.cells cur0 9)).heap.size = w2.heap.size + 1 := by simp
  have r6 : G < w2.heap.size := (Array.getElem?_eq_some_iff.1 hG).1
  have r6T : Tm < w2.heap.size := (Array.getElem?_eq_some_iff.1 hT).1
  have r7 : 0 < len → R < w1.heap.size := fun h => by obtain ⟨_, cur, h', _⟩ := hrow h; exact (Array.getElem?_eq_some_iff.1 h').1
  have r8 := hch1.size
  clear hG hF hT hch1 hch2 hrow hmk
  generalize w2.alloc (.cells cur0 9) = w3 at *
  generalize w2.heap.size = P at *
  have HW := hide r5
  clear r5
  go_loopw [4, 5] (fun d i wr => ∃ (k : Nat) (vt : Value), k ≤ len ∧ i = .int .i64 k ∧ d = .slice (some ⟨P, 0, none⟩) (dis ss k).length len ∧ Rel6 w3 wr (P + 1) G P F Tm len k ss vt) (fun _ i _ => len - (intOf i).toNat)
  case atStart =>
    refine ⟨0, .slice none 0 0, Nat.zero_le _, rfl, rfl, ⟨⟨World.ownsRow_nil _ _ _ _, SMap.made r2T, by simp [Value.ownBlock], by simp [Value.ownBlock], h6, fun s hs => by cases hs⟩, r2, ⟨by simp [dis], .inr ⟨P, len, cur0, rfl, Nat.zero_le _, r3, Nat.zero_le _, by unfold maxLen; omega, by simpa using hcs0, by simp [dis]⟩⟩, Chg.refl _ _, HW.out, by omega, by omega, by omega, by omega, by omega⟩⟩
  case round =>
    obtain ⟨k, vt, hk, rfl, rfl, D⟩ := hrel
    have hdl := dis_len ss k
    by_cases hlt : k < len
    · obtain ⟨rfl, rc, hR1, hR2⟩ := r1 (by omega)
      have r7' := r7 (by omega)
      have hRr : wr.heap[R]? = some (.cells rc 9 (0, 0)) := D.chg.heap hR1 (by omega)
      have e0 : wr.cell? ⟨R, k, none⟩ = some (.string (ss k)) := (cell_of_block hRr _).trans (hR2 k hlt)
      have p1 : (0 : Int) ≤ (k : Int) := by omega
      have p2 : (k : Int) < (len : Int) := by omega
      have HD := hide D
      have HR := hide hRr
      have H12 := hide (f12_any wr (P + 1) G Tm (.map (some F)) (.slice none 0 0) (.int .i32 0) (.int .i64 0) vt (dis ss k) (ss k) D.texts D.hG (HS.out k hlt) (by omega) (by have := D.chg.size; have := D.bs; omega))
      have HK := hide (hR2 k hlt)
      clear D hRr hR1 hR2 r1 r4 hcs0 r2 r2T r3
      go_wp2_with fail
      refine H12.out.mono ?_
      rintro e wa ⟨rfl, vt', A⟩
      have hRa : wa.heap[R]? = some (.cells rc 9 (0, 0)) := by
        refine A.chg.heap HR.out ?_
        rintro (e | e | e)
        · omega
        · omega
        · have := (HD.out.texts.row.lt _ e).1; omega
      have ea : wa.cell? ⟨R, k, none⟩ = some (.string (ss k)) := (cell_of_block hRa _).trans HK.out
      have hown : wa.ownsRow 0 9 1 (.slice (some ⟨P, 0, none⟩) (dis ss k).length len) (dis ss k).length ((dis ss k).map .string) := by
        exact rel6_dist HD.out A
      have HA := hide A
      have HO := hide hown
      have HRa := hide hRa
      obtain ⟨m, hm⟩ : ∃ m, (dis ss k).length = m := ⟨_, rfl⟩
      have HM := hide hm
      obtain ⟨q, hq⟩ : ∃ q, ss k = q := ⟨_, rfl⟩
      have HQ := hide hq
      obtain ⟨r, hr⟩ : ∃ r, rk (dis ss k) (ss k) = r := ⟨_, rfl⟩
      have Hr := hide hr
      rw [hm, hr]
      rw [hm] at hdl
      rw [hq] at ea
      have hrm : r ≤ m := by rw [← hr, ← hm]; exact rk_le _ _
      clear A hown hRa hm hq hr e0
      go_wp2_with fail
      go_loopw [7, 8] (fun want j wr => ∃ i : Nat, i ≤ m ∧ j = .int .i64 i ∧ want = .int .i64 (-1) ∧ i ≤ r ∧ Chg wa wr (fun _ => False)) (fun _ j _ => m - (intOf j).toNat)
      case atStart => exact ⟨0, Nat.zero_le _, rfl, rfl, Nat.zero_le _, Chg.refl _ _⟩
      case round =>
        obtain ⟨i, hi', rfl, rfl, hir, hwr⟩ := hrel
        by_cases him : i < m
        · obtain ⟨t, ht⟩ : ∃ t, (dis ss k)[i]? = some t := ⟨_, List.getElem?_eq_getElem (by rw [HM.out]; exact him)⟩
          have x0 : wr.cell? ⟨P, i, none⟩ = some (.string t) := by
            have hh := (ownsRow_chg9 HO.out hwr (fun _ _ => id)).cells (g := P) rfl i (.string t) (by simp [ht])
            rwa [Addr.add_lit, Nat.zero_add] at hh
          have x1 : wr.cell? ⟨R, k, none⟩ = some (.string q) := by
            have hh := hwr.heap HRa.out id
            rw [cell_of_block hh]
            rw [cell_of_block HRa.out] at ea
            exact ea
          have HT := hide ht
          have HX := hide hwr
          have pi1 : (0 : Int) ≤ (i : Int) := by omega
          have pi2 : (i : Int) < (m : Int) := by omega
          by_cases e : t = q
          · have hb : (t.toList == q.toList) = true := by rw [beq_bytes]; simp [e]
            have hri : r = i := by
              have := rk_at (xs := dis ss k) (t := ss k) (i := i) (by rw [HT.out, HQ.out, e]) (by rw [Hr.out]; exact hir)
              rw [Hr.out] at this; exact this
            have He := hide e
            clear ht hwr ea e
            subst hri
            go_wp2_with fail
            go_quiet (fail)
            go_wp2
            go_roundw
            case rel =>
              have hin : rk (dis ss k) (ss k) < (dis ss k).length := by rw [Hr.out, HM.out]; exact him
              exact ⟨k + 1, vt', by omega, by go_num, by rw [dis_hit hin, HM.out], rel6_hit HD.out HA.out (HX.out.drewN _) hin⟩
            case measure => simp [intOf]; omega
          · have hb : (t.toList == q.toList) = false := by rw [beq_bytes]; simp [e]
            have hri : i + 1 ≤ r := by
              have := rk_past (xs := dis ss k) (s := ss k) (i := i) HT.out (by rw [Hr.out]; exact hir) (by rw [HQ.out]; exact e)
              rw [Hr.out] at this; exact this
            clear ht hwr ea e
            go_wp2_with fail
            go_quiet (fail)
            go_wp2
            go_roundw
            case rel => exact ⟨i + 1, by omega, by go_num, rfl, hri, HX.out.drewN _⟩
            case measure => simp [intOf]; omega
        · have HX := hide hwr
          have x1 : wr.cell? ⟨R, k, none⟩ = some (.string q) := by
            have hh := hwr.heap HRa.out id
            rw [cell_of_block hh]
            rw [cell_of_block HRa.out] at ea
            exact ea
          have HOm := hide (show wr.ownsRow 0 9 1 (.slice (some ⟨P, 0, none⟩) m len) m ((dis ss k).map .string) by
            have hh := ownsRow_chg9 HO.out hwr (fun _ _ => id)
            rwa [HM.out] at hh)
          obtain rfl : r = m := by omega
          have hPw : P < wr.heap.size := (HOm.out.lt P rfl).2
          clear hwr ea
          go_wp2_with (at_builtin; refine wpList_append_fits _ rfl _ _ _ rfl 0 9 i9 1 Try.underlying54 hi hz1 P r len ((dis ss k).map .string) rfl (HOm.out.alloc _) ⟨wr.heap.size, 0, none⟩ 1 1 [.string q] rfl rfl (World.news_of_block (cs := #[.string q]) (t := 9) (fr := (0, 0)) (heap_new _ rfl)) (by simp [Value.oneCell']) (by omega) ?_)
          intro w5 hown5 hgrow5
          have H5 := hide hown5
          have HG5 := hide hgrow5
          clear hown5 hgrow5
          go_wp2
          go_roundw
          case rel =>
            have hin : ¬ rk (dis ss k) (ss k) < (dis ss k).length := by rw [Hr.out, HM.out]; omega
            refine ⟨k + 1, vt', by omega, by go_num, by rw [dis_miss hin, HM.out], rel6_miss HD.out HA.out ((HX.out.mono (fun _ _ h => h.elim)).chain ((Chg.ofAlloc _ _ _).chain (Chg.ofGrown HG5.out (fun k h => (Option.some.inj h).symm)))) hin ?_⟩
            rw [HM.out, HQ.out]; exact H5.out
          case measure => simp [intOf]; omega
    · obtain rfl : k = len := by omega
      have HD := hide D
      have HR := hide r4
      have hB : w'.heap.size ≤ G ∧ w'.heap.size ≤ P ∧ w'.heap.size ≤ Tm := by omega
      obtain ⟨va, vc, hv⟩ := D.texts.form
      have HV := hide hv
      obtain ⟨m, hm⟩ : ∃ m, (dis ss k).length = m := ⟨_, rfl⟩
      have HM := hide hm
      rw [hm] at hdl ⊢
      rw [hm] at hv
      clear D r1 r2 r2T r3 r4 hcs0 hm
      have H26 := hide (f26_any wr G (.map (some F)) (.slice none 0 0) (.int .i32 0) vt (.map (some Tm)) (.int .i64 0) HD.out.hG)
      have H27 := hide (f27_any wr G Tm (dis ss k).length (.map (some F)) (.slice none 0 0) (.int .i32 0) vt (.int .i64 0) (idx (dis ss k)) HD.out.texts.map HD.out.hG)
      rw [hv] at H26
      rw [HM.out] at H27
      clear hv
      go_wp2_with fail
      refine H26.out.mono ?_
      rintro e wb ⟨rfl, hwb⟩
      subst hwb
      go_wp2_with fail
      refine H27.out.mono ?_
      rintro e wb ⟨rfl, hwb⟩
      subst hwb
      go_wp2_with fail
      generalize wb = wE at *
      go_loopw [10] (fun j wr => ∃ i : Nat, i ≤ m ∧ j = .int .i64 i ∧ Chg wE wr (fun _ => False)) (fun j _ => m - (intOf j).toNat)
      case atStart => exact ⟨0, Nat.zero_le _, rfl, Chg.refl _ _⟩
      case round =>
        obtain ⟨i, hi', rfl, hwr⟩ := hrel
        by_cases him : i < m
        · obtain ⟨g, cap', hv', _⟩ := HD.out.texts.row.form (by rw [HM.out]; omega)
          obtain ⟨t, ht⟩ : ∃ t, (dis ss k)[i]? = some t := ⟨_, List.getElem?_eq_getElem (by rw [HM.out]; exact him)⟩
          have hva : va = some ⟨g, 0, none⟩ := by
            have := HV.out.symm.trans hv'
            injection this
          subst hva
          have x0 : wr.cell? ⟨P, i, none⟩ = some (.string t) := by
            have hh := (ownsRow_chg9 HD.out.dist hwr (fun _ _ => id)).cells (g := P) rfl i (.string t) (by simp [ht])
            rwa [Addr.add_lit, Nat.zero_add] at hh
          have x1 : wr.cell? ⟨g, i, none⟩ = some (.string t) := by
            have hh := (ownsRow_chg9 HD.out.texts.row hwr (fun _ _ => id)).cells (g := g) (by rw [hv']; rfl) i (.string t) (by simp [ht])
            rwa [Addr.add_lit, Nat.zero_add] at hh
          have hts : t.size ≤ maxLen := HD.out.texts.len t (List.mem_of_getElem? ht)
          have hix : idx (dis ss k) t = some (i : Int) := by
            have := dis_uniq ss k i t ht
            unfold idx
            rw [this, if_pos (by rw [HM.out]; exact him)]
          have H28 := hide (fun (wy : World) (hy : Chg wE wy (fun _ => False)) => f28_any wy G Tm (dis ss k).length (.map (some F)) (.slice none 0 0) (.int .i32 0) vt (.int .i64 0) (idx (dis ss k)) (HD.out.texts.map.chg hy id) (hy.heap HD.out.hG id) t hts (i : Int) hix)
          have HX := hide hwr
          have pi1 : (0 : Int) ≤ (i : Int) := by omega
          have pi2 : (i : Int) < (m : Int) := by omega
          have pi3 : (i : Int) < (k : Int) := by omega
          clear hwr ht hv' hts hix
          go_wp2_with fail
          go_quiet (fail)
          go_wp2_with fail
          refine (H28.out _ (HX.out.drewN _)).mono ?_
          rintro e wb ⟨rfl, hwb⟩
          subst hwb
          go_wp2
          go_roundw
          case rel => exact ⟨i + 1, by omega, by go_num, HX.out.drewN _⟩
          case measure => simp [intOf]; omega
        · have HX := hide hwr
          clear hwr
          go_wp2
          go_ret
          refine ⟨rfl, Chg.below (S := fun j => j = G ∨ j = Tm ∨ j = P ∨ P + 1 ≤ j) ?_ (Nat.le_refl _) (fun j hj => by omega)⟩
          exact (HR.out.trans HD.out.chg (S'' := fun j => j = G ∨ j = Tm ∨ j = P ∨ P + 1 ≤ j) (fun _ _ h => h.elim) (fun _ _ h => h)).trans HX.out (fun _ _ h => h) (fun _ _ h => h.elim)

/-- THE WALK -/
theorem f6_walk (w : World) (a : Option Addr) (len cap : Nat) (ss : Nat → ByteArray) (h : IsStrs w a len cap ss) :
    Calls Try.prog 6 #[.slice a len cap] w fun e w' => e = .returned (.bool true) ∧ Below w.heap.size w w' := by
  by_cases hq : len ≤ 4096 ∧ ∀ i, i < len → (ss i).size ≤ 1048576
  · exact f6_core w a len cap ss h hq.1 hq.2
  · have HF := hide (f23_any w a len cap ss h)
    have hml := h.len
    have HQ := hide hq
    unfold maxLen at hml
    clear h hq
    go_enter Try.func6, Try.ntmps6
    go_wp2_with fail
    refine HF.out.mono ?_
    rintro e w' ⟨rfl, r, rfl, hr⟩
    cases r with
    | false =>
      go_wp2
      go_ret
      exact ⟨rfl, Below.refl _ _⟩
    | true =>
      have hl : (4096 : Int) < (len : Int) := by
        rcases Nat.lt_or_ge 4096 len with h | h
        · omega
        · exact absurd ⟨h, hr rfl⟩ HQ.out
      clear hr
      go_wp2
      go_ret
      exact ⟨rfl, Below.refl _ _⟩
end Go.Proofs.Qxb6000095a
