import Derived.Test.Qxb6000182aEnc
import Derived.Test.Qxb6000182aPl
import Derived.Test.Qxb6000182aClone
import Derived.Deep.AppendLies
import Derived.Deep.RegionLaw
import Derived.Lib.Varint
/-! b1AppendUvarint, b1AppendBytes, b1Zigzag. -/
namespace Go.Proofs.Qxb6000182a
open Go.RowKit
set_option linter.unusedSimpArgs false
set_option linter.unusedVariables false
attribute [local go_sem ↓] Go.wp_at_zero Go.wp_at_succ

def byteV (x : Nat) : Value := .int .u8 (x : Int)
/-- a row of the call's own that bears these bytes and has room up to 'cap' -/
def Own (w : World) (g cap : Nat) (D : List Nat) : Prop := w.ownsRow 0 5 1 (.slice (some ⟨g, 0, none⟩) D.length cap) D.length (D.map byteV)

theorem Own.chg {w w' : World} {g cap : Nat} {D : List Nat} (h : Own w g cap D) {S : Nat → Prop} (hc : Chg w w' S) (hS : ¬ S g) : Own w' g cap D := by
  refine ⟨h.1, ?_⟩
  rcases h.2 with ⟨hv, _⟩ | ⟨g', cap', cur, e1, e2, e3, e4⟩
  · cases hv
  · cases e1
    exact .inr ⟨g, cap, cur, rfl, e2, hc.heap e3 hS, e4⟩
theorem Own.lt {w : World} {g cap : Nat} {D : List Nat} (h : Own w g cap D) : g < w.heap.size := by
  rcases h.2 with ⟨hv, _⟩ | ⟨g', cap', cur, e1, e2, e3, e4⟩
  · cases hv
  · cases e1; exact (Array.getElem?_eq_some_iff.1 e3).1
theorem Own.lies {w : World} {g cap : Nat} {D : List Nat} (h : Own w g cap D) (hb : ∀ x ∈ D, x < 256) : Lies w (some ⟨g, 0, none⟩) D := by
  refine ⟨?_, fun _ => ⟨g, rfl, ?_⟩⟩
  · intro i hi
    refine hb _ ?_
    simp only [gb, List.getD_eq_getElem?_getD, List.getElem?_eq_getElem hi]
    exact List.getElem_mem hi
  · intro i hi
    rcases h.2 with ⟨hv, _⟩ | ⟨g', cap', cur, e1, e2, e3, e4, e5, e6, e7⟩
    · cases hv
    · cases e1
      rw [cell_of_block e3]
      have h1 : (cur.toList.take (D.length * 1))[i]? = (D.map byteV)[i]? := by rw [e7]
      rw [List.getElem?_take, if_pos (by omega), List.getElem?_map, List.getElem?_eq_getElem hi] at h1
      rw [← Array.getElem?_toList, h1]
      simp [gb, byteV, List.getD_eq_getElem?_getD, List.getElem?_eq_getElem hi]

theorem Own.mk {w : World} {g cap : Nat} {D : List Nat} (cur : Array Value) (h : w.heap[g]? = some (.cells cur 5 (0, 0))) (hl : D.length ≤ cap) (hc : cap ≤ maxLen) (hs : cur.size = cap) (ht : cur.toList.take D.length = D.map byteV) : Own w g cap D :=
  ⟨by simp, .inr ⟨g, cap, cur, rfl, Nat.zero_le _, h, hl, hc, by simpa using hs, by simpa using ht⟩⟩

theorem own_next {w : World} {g cap n b : Nat} {D : List Nat} {x : Int} (h : w.ownsRow 0 5 1 (.slice (some ⟨g, 0, none⟩) (n + 1) cap) (n + 1) (D.map byteV ++ [.int .u8 x])) (hn : n = D.length) (hx : x = (b : Int)) : Own w g cap (D ++ [b]) := by
  subst hn hx
  unfold Own
  have e1 : (D ++ [b]).length = D.length + 1 := by simp
  have e2 : (D ++ [b]).map byteV = D.map byteV ++ [.int .u8 (b : Int)] := by simp [byteV]
  rw [e1, e2]
  exact h

theorem or128_byte (v : Nat) : bits .or .u8 ((v : Int) % 256) 128 = ((v % 128 + 128 : Nat) : Int) := by
  rw [Lib.u8_or128_any _ (by omega) (by omega)]
  omega

set_option maxRecDepth 100000 in
set_option maxHeartbeats 2000000 in
theorem f16_any (w : World) (g cap n v : Nat) (D : List Nat) (hn : D.length = n) (hv : v < 18446744073709551616) (h : Own w g cap D) (hroom : n + (uv v).length ≤ cap) (hcap : cap ≤ 1073741824) :
    Calls Try.prog 16 #[.slice (some ⟨g, 0, none⟩) n cap, .int .u64 (v : Int)] w fun e w' => e = .returned (.slice (some ⟨g, 0, none⟩) (n + (uv v).length) cap) ∧ Own w' g cap (D ++ uv v) ∧ Chg w w' (fun k => k = g) := by
  obtain ⟨i5, hi, hz0, hz1, hz2⟩ := info_parts info5
  have HN := hide hn
  have HR := hide hroom
  have H0 := hide h
  clear h hn hroom
  go_enter Try.func16, Try.ntmps16
  go_wp2_with fail
  go_loopw [0, 1] (fun d x wr => ∃ (D' : List Nat) (n' v' : Nat), d = .slice (some ⟨g, 0, none⟩) n' cap ∧ x = .int .u64 (v' : Int) ∧ v' < 18446744073709551616 ∧ Hid (n' = D'.length) ∧ Hid (D' ++ uv v' = D ++ uv v) ∧ Hid (Own wr g cap D') ∧ Hid (Chg w wr (fun k => k = g)))
    (fun _ x _ => (intOf x).toNat)
  case atStart => exact ⟨D, n, v, rfl, rfl, hv, hide HN.out.symm, hide rfl, H0, hide (Chg.refl _ _)⟩
  case round =>
    obtain ⟨D', n', v', rfl, rfl, hv', hn', hD, hO, hC⟩ := hrel
    clear H0
    generalize wr = wE at *
    have hO' : Hid (wE.ownsRow 0 5 1 (.slice (some ⟨g, 0, none⟩) n' cap) n' (D'.map byteV)) := by have := hO.out; unfold Own at this; rw [← hn'.out] at this; exact hide this
    have hlen : n' + (uv v').length = n + (uv v).length := by have := congrArg List.length hD.out; simp at this; have := hn'.out; have := HN.out; omega
    have hup := uv_pos v'
    have hfit : n' + 1 ≤ cap := by have := HR.out; omega
    clear hlen hup
    by_cases hbig : v' < 128
    · have hbig' : ¬ (128 : Int) ≤ (v' : Int) := by omega
      have hby : Hid (IntKind.u8.wrap (v' : Int) = (v' : Int)) := hide (by rw [IntKind.wrap_u8]; omega)
      go_wp2_with (at_builtin; refine wpList_append_fits _ rfl _ _ _ rfl 0 5 i5 1 Try.underlying22 hi hz1 g n' cap (D'.map byteV) rfl (hO'.out.alloc _) ⟨wE.heap.size, 0, none⟩ 1 1 [.int .u8 (v' : Int)] rfl rfl (World.news_of_block (cs := #[.int .u8 (v' : Int)]) (t := 5) (fr := (0, 0)) (heap_new _ rfl)) (by simp [Value.oneCell']) (by omega) ?_)
      intro w' hown hgrow
      have HW := hide hown
      clear hown
      go_wp2
      go_ret
      have hu : D ++ uv v = D' ++ [v'] := by rw [← hD.out, uv_small hbig]
      have hl : n + (uv v).length = n' + 1 := by have := congrArg List.length hu; simp at this; have := hn'.out; have := HN.out; omega
      rw [hl, hu]
      exact ⟨rfl, own_next HW.out hn'.out rfl, (hC.out.alloc _).chain (Chg.ofGrown hgrow (fun k hk => (Option.some.inj hk).symm))⟩
    · have hbig' : (128 : Int) ≤ (v' : Int) := by omega
      go_wp2_with (at_builtin; refine wpList_append_fits _ rfl _ _ _ rfl 0 5 i5 1 Try.underlying22 hi hz1 g n' cap (D'.map byteV) rfl (hO'.out.alloc _) ⟨wE.heap.size, 0, none⟩ 1 1 [.int .u8 (bits .or .u8 ((v' : Int) % 256) 128)] rfl rfl (World.news_of_block (cs := #[.int .u8 (bits .or .u8 ((v' : Int) % 256) 128)]) (t := 5) (fr := (0, 0)) (heap_new _ rfl)) (by simp [Value.oneCell']) (by omega) ?_)
      intro w' hown hgrow
      have HW := hide hown
      clear hown
      go_wp2
      go_roundw
      case rel => exact ⟨D' ++ [v' % 128 + 128], n' + 1, v' / 128, rfl, by go_num, by omega, hide (by have := hn'.out; simp; omega), hide (by rw [← hD.out, uv_big hbig]; simp), hide (own_next HW.out hn'.out (or128_byte v')), hide ((hC.out.alloc _).chain (Chg.ofGrown hgrow (fun k hk => (Option.some.inj hk).symm)))⟩
      case measure => simp [intOf]; omega

set_option maxRecDepth 100000 in
set_option maxHeartbeats 2000000 in
theorem f17_any (w : World) (g cap n len cap2 : Nat) (a : Option Addr) (D l : List Nat) (hn : D.length = n) (hl : l.length = len) (h : Own w g cap D) (hL : Lies w a l) (hR : a ≠ some ⟨g, 0, none⟩) (hroom : n + len ≤ cap) (hcap : cap ≤ 1073741824) :
    Calls Try.prog 17 #[.slice (some ⟨g, 0, none⟩) n cap, .slice a len cap2] w fun e w' => e = .returned (.slice (some ⟨g, 0, none⟩) (n + len) cap) ∧ Own w' g cap (D ++ l) ∧ Chg w w' (fun k => k = g) := by
  obtain ⟨i5, hi, hz0, hz1, hz2⟩ := info_parts info5
  have HN := hide hn
  have HL := hide hl
  have H0 := hide h
  have HLi := hide hL
  have HR := hide hR
  clear h hn hl hL hR
  go_enter Try.func17, Try.ntmps17
  go_wp2_with fail
  go_loopw [0, 5] (fun d x wr => ∃ k : Nat, d = .slice (some ⟨g, 0, none⟩) (n + k) cap ∧ x = .int .i64 (k : Int) ∧ k ≤ len ∧ Hid (Own wr g cap (D ++ l.take k)) ∧ Hid (Chg w wr (fun k => k = g)))
    (fun _ x _ => len - (intOf x).toNat)
  case atStart => exact ⟨0, rfl, rfl, Nat.zero_le _, hide (by simpa using H0.out), hide (Chg.refl _ _)⟩
  case round =>
    obtain ⟨k, rfl, rfl, hk, hO, hC⟩ := hrel
    clear H0
    generalize wr = wE at *
    by_cases hlt : k < len
    · have hlt' : (k : Int) < (len : Int) := by omega
      have hLE := HLi.out.chg hC.out (fun R hR e => HR.out (by rw [hR, e]))
      obtain ⟨R, rfl, hcell⟩ := hLE.2 (by have := HL.out; omega)
      have hck := hcell k (by have := HL.out; omega)
      have hkb := HLi.out.1 k (by have := HL.out; omega)
      have htk : Hid (l.take (k + 1) = l.take k ++ [gb l k]) := hide (by
        have hk' : k < l.length := by have := HL.out; omega
        rw [List.take_add_one, List.getElem?_eq_getElem hk']
        simp [gb, List.getD_eq_getElem?_getD, List.getElem?_eq_getElem hk'])
      have hnk : Hid (n + k = (D ++ l.take k).length) := hide (by have := HN.out; have := HL.out; simp; omega)
      generalize gb l k = b at *
      have hDn : Hid (D ++ l.take (k + 1) = (D ++ l.take k) ++ [b]) := hide (by rw [htk.out, List.append_assoc])
      generalize D ++ l.take k = DD at hO hnk hDn
      have hO' : Hid (wE.ownsRow 0 5 1 (.slice (some ⟨g, 0, none⟩) (n + k) cap) (n + k) (DD.map byteV)) := by have := hO.out; unfold Own at this; rw [← hnk.out] at this; exact hide this
      clear hcell hLE
      go_wp2_with (at_builtin; refine wpList_append_fits _ rfl _ _ _ rfl 0 5 i5 1 Try.underlying22 hi hz1 g (n + k) cap (DD.map byteV) rfl (hO'.out.alloc _) ⟨wE.heap.size, 0, none⟩ 1 1 [.int .u8 (b : Int)] rfl rfl (World.news_of_block (cs := #[.int .u8 (b : Int)]) (t := 5) (fr := (0, 0)) (heap_new _ rfl)) (by simp [Value.oneCell']) (by omega) ?_)
      intro w' hown hgrow
      have HW := hide hown
      clear hown
      go_wp2
      go_roundw
      case rel => exact ⟨k + 1, rfl, by go_num, by omega, hide (by rw [hDn.out]; exact own_next HW.out hnk.out rfl), hide ((hC.out.alloc _).chain (Chg.ofGrown hgrow (fun k hk => (Option.some.inj hk).symm)))⟩
      case measure => simp [intOf]; omega
    · have hlt' : ¬ (k : Int) < (len : Int) := by omega
      have hke : k = len := by omega
      go_wp2
      go_ret
      subst hke
      have ht : l.take k = l := List.take_of_length_le (by have := HL.out; omega)
      have hO2 := hO.out
      rw [ht] at hO2
      exact ⟨rfl, hO2, hC.out⟩

/-- the number that b1Zigzag answers -/
def zz (x : Int) : Nat := if 0 ≤ x then (2 * x).toNat else (-2 * x - 1).toNat
theorem unz_zz (x : Int) : unz (zz x) = x := by unfold zz unz; split <;> split <;> omega
theorem zz_lt {x : Int} (h0 : -9223372036854775808 ≤ x) (h1 : x ≤ 9223372036854775807) : zz x < 18446744073709551616 := by unfold zz; split <;> omega

theorem zz_eq (x : Int) (h0 : -9223372036854775808 ≤ x) (h1 : x ≤ 9223372036854775807) : bits .xor .u64 (IntKind.u64.wrap (wrap64 (x * 2))) (IntKind.u64.wrap (x / 9223372036854775808)) = (zz x : Int) := by
  by_cases h : 0 ≤ x
  · have e1 : x / 9223372036854775808 = 0 := by omega
    have e2 : IntKind.u64.wrap (wrap64 (x * 2)) = (((2 * x).toNat : Nat) : Int) := by rw [IntKind.wrap_u64]; unfold wrap64; omega
    have e3 : IntKind.u64.wrap 0 = ((0 : Nat) : Int) := by rw [IntKind.wrap_u64]; rfl
    rw [e1, e2, e3, bits_xor_u64_nat _ _ (by omega) (by omega), Nat.xor_zero]
    unfold zz
    rw [if_pos h]
  · have e1 : x / 9223372036854775808 = -1 := by omega
    have e2 : IntKind.u64.wrap (wrap64 (x * 2)) = IntKind.u64.wrap (IntKind.u64.wrap x * 2) := by rw [IntKind.wrap_u64, IntKind.wrap_u64, IntKind.wrap_u64]; unfold wrap64; omega
    have e3 : IntKind.u64.wrap (-1) = IntKind.u64.max := by rw [IntKind.wrap_u64]; rfl
    have e4 := Lib.zigzag_neg h0 (by omega : x < 0)
    have e5 : ∀ a b, bits .xor .u64 a b = bits .xor .u64 b a := fun a b => by simp only [bits, BitVec.xor_comm]
    rw [e1, e2, e3, e5, e4]
    rfl

set_option maxRecDepth 100000 in
theorem f40_any (w : World) (x : Int) (h0 : -9223372036854775808 ≤ x) (h1 : x ≤ 9223372036854775807) :
    Calls Try.prog 40 #[.int .i64 x] w fun e w' => e = .returned (.int .u64 (zz x : Int)) ∧ w' = w := by
  go_enter Try.func40, Try.ntmps40
  go_wp2
  go_ret
  rw [zz_eq x h0 h1]
  exact ⟨rfl, rfl⟩
end Go.Proofs.Qxb6000182a
