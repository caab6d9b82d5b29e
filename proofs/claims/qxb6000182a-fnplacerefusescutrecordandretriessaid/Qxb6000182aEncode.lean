import Derived.Test.Qxb6000182aApp
import Derived.Test.Qxb6000182aRec
import Derived.Deep.DeepCutAuto
/-! b1EncodeRecord writes the plain record. -/
namespace Go.Proofs.Qxb6000182a
open Go.RowKit
set_option linter.unusedSimpArgs false
set_option linter.unusedVariables false
attribute [local go_sem ↓] Go.wp_at_zero Go.wp_at_succ

theorem mkEnc (w : World) : (Instr.makeSlice 22 (.int .i64 1) (.int .i64 64)).run Try.prog w =
    .ok (.slice (some ⟨w.heap.size, 0, none⟩) 1 64) (w.alloc (.cells (madeCells #[.int .u8 0] 64) 5)) := by
  obtain ⟨i, hi, hz0, hz1, hz2⟩ := info_parts info5
  have := run_make (P := Try.prog) w 22 5 i _ Try.underlying22 hi hz0 .i64 .i64 1 64 (by omega) (by omega) (by rw [hz2]; omega) (by omega)
  rw [hz1] at this
  simpa [Value.cells] using this

theorem flg_or64 : bits .or .u8 0 64 = (flg true false false false : Int) := by decide
theorem flg_or128 (b1 : Bool) : bits .or .u8 (flg b1 false false false : Int) 128 = (flg b1 true false false : Int) := by cases b1 <;> decide
theorem flg_or8 (b1 b2 : Bool) : bits .or .u8 (flg b1 b2 false false : Int) 8 = (flg b1 b2 true false : Int) := by cases b1 <;> cases b2 <;> decide
theorem flg_or4 (b1 b2 b3 : Bool) : bits .or .u8 (flg b1 b2 b3 false : Int) 4 = (flg b1 b2 b3 true : Int) := by cases b1 <;> cases b2 <;> cases b3 <;> decide

/-- what the appends have come to -/
structure Put (w w' : World) (g : Nat) (D : List Nat) : Prop where
  own : Own w' g 64 D
  chg : Chg w w' (fun _ => False)
  new : w.heap.size ≤ g

theorem Put.next {w w1 w2 : World} {g : Nat} {D D' : List Nat} (h : Put w w1 g D) (ho : Own w2 g 64 D') (hc : Chg w1 w2 (fun k => k = g)) : Put w w2 g D' :=
  ⟨ho, h.chg.trans hc (fun _ _ => id) (fun k hk e => absurd h.new (by omega)), h.new⟩

theorem head_made (mk : Array Value) (h : mk.size = 64) (x : Nat) : (mk.setIfInBounds 0 (.int .u8 (x : Int))).toList.take [x].length = [x].map byteV := by
  have h0 : 0 < (mk.setIfInBounds 0 (.int .u8 (x : Int))).toList.length := by simp; omega
  rw [List.length_singleton, List.take_one, List.head?_eq_getElem?, Array.getElem?_toList, Array.getElem?_setIfInBounds]
  simp [h, byteV]

set_option maxRecDepth 100000 in
set_option maxHeartbeats 4000000 in
theorem f21_any (w : World) (sec line series secStep step rS rL tS tN aS aN ns nss : Int) (b1 b2 b3 b4 : Bool) (m : Nums)
    (hns : ns = wrap64 (rL - line)) (hnss : nss = wrap64 (tS - sec)) (h1 : b1 = decide (rS = series)) (h2 : b2 = (decide (ns = step) && decide (nss = secStep))) (h3 : b3 = (decide (tN = 0) && decide (aN = 0))) (h4 : b4 = (!decide (aS = tS) || !decide (aN = tN)))
    (n1 : -9223372036854775808 ≤ ns ∧ ns ≤ 9223372036854775807) (n2 : -9223372036854775808 ≤ nss ∧ nss ≤ 9223372036854775807)
    (hms : (m.s : Int) = IntKind.u64.wrap rS) (hm1 : m.z1 = zz ns) (hm2 : m.z2 = zz nss) (hmt : (m.t : Int) = tN % 4294967296) (hmd : (m.d : Int) = IntKind.u64.wrap (wrap64 (tS - aS))) (hmu : (m.u : Int) = aN % 4294967296) (hok : m.Ok) :
    Calls Try.prog 21 #[.int .i64 sec, .int .i64 line, .int .i64 series, .int .i64 secStep, .int .i64 step, .int .i64 rS, .int .i64 rL, .int .i64 tS, .int .i32 tN, .int .i64 aS, .int .i32 aN] w fun e w' =>
      ∃ g, e = .returned (.slice (some ⟨g, 0, none⟩) (recd b1 b2 b3 b4 m).length 64) ∧ Put w w' g (recd b1 b2 b3 b4 m) := by
  obtain ⟨mk, hmk, hmks⟩ : ∃ mk : Array Value, (∀ w : World, (Instr.makeSlice 22 (.int .i64 1) (.int .i64 64)).run Try.prog w = .ok (.slice (some ⟨w.heap.size, 0, none⟩) 1 64) (w.alloc (.cells mk 5))) ∧ mk.size = 64 := ⟨_, mkEnc, size_madeCells _ _⟩
  obtain ⟨v0, hv0⟩ : ∃ v, mk[0]? = some v := ⟨_, Array.getElem?_eq_getElem (by omega)⟩
  have H1 := hide h1
  have H2 := hide h2
  have H3 := hide h3
  have H4 := hide h4
  have HS := hide hms
  have HZ1 := hide hm1
  have HZ2 := hide hm2
  have HT := hide hmt
  have HD := hide hmd
  have HU := hide hmu
  have OK := hide hok
  have HNS := hide hns
  have HNSS := hide hnss
  have N1 := hide n1
  have N2 := hide n2
  clear h1 h2 h3 h4 hms hm1 hm2 hmt hmd hmu hok n1 n2
  go_enter Try.func21, Try.ntmps21
  go_upto_if 37 with fail
  rw [← hns, ← hnss]
  clear hns hnss
  go_cut [23] (fun fl w' => fl = .int .u8 (flg b1 false false false : Int) ∧ w' = w)
  case first =>
    by_cases e1 : rS = series
    · have hb : b1 = true := by rw [H1.out]; simp [e1]
      subst hb
      go_wp2_with fail
      go_meet
      case rel => exact ⟨congrArg _ flg_or64, rfl⟩
    · have hb : b1 = false := by rw [H1.out]; simp [e1]
      subst hb
      go_wp2_with fail
      go_meet
      case rel => exact ⟨rfl, rfl⟩
  case rest =>
    obtain ⟨rfl, rfl⟩ := hcut
    go_upto_region 6 with fail
    go_cut [47] (fun v w' => v = .bool b2 ∧ w' = wc)
    case first =>
      by_cases e1 : ns = step
      · by_cases e2 : nss = secStep
        · have hb : b2 = true := by rw [H2.out]; simp [e1, e2]
          subst hb
          go_wp2_with fail
          go_meet
          case rel => exact ⟨by simp, rfl⟩
        · have hb : b2 = false := by rw [H2.out]; simp [e1, e2]
          subst hb
          go_wp2_with fail
          go_meet
          case rel => exact ⟨by simp [e2], rfl⟩
      · have hb : b2 = false := by rw [H2.out]; simp [e1]
        subst hb
        go_wp2_with fail
        go_meet
        case rel => exact ⟨by simp, rfl⟩
    case rest =>
      obtain ⟨rfl, rfl⟩ := hcut
      go_upto_if 47 with fail
      go_cut [23] (fun fl w' => fl = .int .u8 (flg b1 b2 false false : Int) ∧ w' = wc)
      case first =>
        by_cases hb : b2 = true
        · subst hb
          go_wp2_with fail
          go_meet
          case rel => exact ⟨congrArg _ (flg_or128 b1), rfl⟩
        · have hb' : b2 = false := by simpa using hb
          subst hb'
          go_wp2_with fail
          go_meet
          case rel => exact ⟨rfl, rfl⟩
      case rest =>
        obtain ⟨rfl, rfl⟩ := hcut
        go_upto_region 8 with fail
        go_cut [26] (fun v w' => v = .bool b3 ∧ w' = wc)
        case first =>
          by_cases e1 : tN = 0
          · by_cases e2 : aN = 0
            · have hb : b3 = true := by rw [H3.out]; simp [e1, e2]
              subst hb
              go_wp2_with fail
              go_meet
              case rel => exact ⟨by simp [e1, e2], rfl⟩
            · have hb : b3 = false := by rw [H3.out]; simp [e1, e2]
              subst hb
              go_wp2_with fail
              go_meet
              case rel => exact ⟨by simp [e1, e2], rfl⟩
          · have hb : b3 = false := by rw [H3.out]; simp [e1]
            subst hb
            go_wp2_with fail
            go_meet
            case rel => exact ⟨by simp [e1], rfl⟩
        case rest =>
          obtain ⟨rfl, rfl⟩ := hcut
          go_upto_if 56 with fail
          go_cut [23] (fun fl w' => fl = .int .u8 (flg b1 b2 b3 false : Int) ∧ w' = wc)
          case first =>
            by_cases hb : b3 = true
            · subst hb
              go_wp2_with fail
              go_meet
              case rel => exact ⟨congrArg _ (flg_or8 b1 b2), rfl⟩
            · have hb' : b3 = false := by simpa using hb
              subst hb'
              go_wp2_with fail
              go_meet
              case rel => exact ⟨rfl, rfl⟩
          case rest =>
            obtain ⟨rfl, rfl⟩ := hcut
            go_upto_region 11 with fail
            go_cut [27] (fun v w' => v = .bool b4 ∧ w' = wc)
            case first =>
              by_cases e1 : aS = tS
              · by_cases e2 : aN = tN
                · have hb : b4 = false := by rw [H4.out]; simp [e1, e2]
                  subst hb
                  go_wp2_with fail
                  go_meet
                  case rel => exact ⟨by simp [e1, e2], rfl⟩
                · have hb : b4 = true := by rw [H4.out]; simp [e1, e2]
                  subst hb
                  go_wp2_with fail
                  go_meet
                  case rel => exact ⟨by simp [e1, e2], rfl⟩
              · have hb : b4 = true := by rw [H4.out]; simp [e1]
                subst hb
                go_wp2_with fail
                go_meet
                case rel => exact ⟨by simp [e1], rfl⟩
            case rest =>
              obtain ⟨rfl, rfl⟩ := hcut
              go_upto_if 67 with fail
              go_cut [23] (fun fl w' => fl = .int .u8 (flg b1 b2 b3 b4 : Int) ∧ w' = wc)
              case first =>
                by_cases hb : b4 = true
                · subst hb
                  go_wp2_with fail
                  go_meet
                  case rel => exact ⟨congrArg _ (flg_or4 b1 b2 b3), rfl⟩
                · have hb' : b4 = false := by simpa using hb
                  subst hb'
                  go_wp2_with fail
                  go_meet
                  case rel => exact ⟨rfl, rfl⟩
              case rest =>
                obtain ⟨rfl, rfl⟩ := hcut
                go_upto_if 76 with fail
                rename World => w0
                have P0 : Hid (Put w0 (w0.alloc (.cells (mk.setIfInBounds 0 (.int .u8 (flg b1 b2 b3 b4 : Int))) 5)) w0.heap.size [flg b1 b2 b3 b4]) := hide ⟨Own.mk _ (heap_new _ rfl) (by simp) (by unfold maxLen; omega) (by simp [hmks]) (head_made mk hmks _), Chg.ofAlloc _ _ _, Nat.le_refl _⟩
                generalize w0.alloc (.cells (mk.setIfInBounds 0 (.int .u8 (flg b1 b2 b3 b4 : Int))) 5) = wA at P0 ⊢
                generalize w0.heap.size = g at P0 ⊢
                clear hmk hmks hv0 H1 H2 H3 H4
                go_cut [28] (fun en w' => ∃ n, en = .slice (some ⟨g, 0, none⟩) n 64 ∧ Hid (n = ([flg b1 b2 b3 b4] ++ part1 b1 m).length ∧ n ≤ 11) ∧ Hid (Put w0 w' g ([flg b1 b2 b3 b4] ++ part1 b1 m)))
                case first =>
                  by_cases hb : b1 = false
                  · have hz : (bits .and .u8 (flg b1 b2 b3 b4 : Int) 64 == 0) = true := by simp [(flg64 b1 b2 b3 b4).2 hb]
                    have hs := HS.out.symm
                    have hl := uv_len64 OK.out.s
                    have H16 := hide (f16_any wA g 64 1 m.s [flg b1 b2 b3 b4] rfl OK.out.s P0.out.own (by omega) (by omega))
                    generalize flg b1 b2 b3 b4 = fl at *
                    go_wp2_with fail
                    refine H16.out.mono ?_
                    rintro e w' ⟨rfl, hO, hC⟩
                    have HP := hide (P0.out.next hO hC)
                    clear hO hC
                    go_wp2_with fail
                    go_meet
                    case rel => exact ⟨_, rfl, hide ⟨by simp [part1, hb]; omega, by omega⟩, hide (by simpa [part1, hb] using HP.out)⟩
                  · have hz : (bits .and .u8 (flg b1 b2 b3 b4 : Int) 64 == 0) = false := by simp; exact fun h => hb ((flg64 b1 b2 b3 b4).1 h)
                    have hb' : b1 = true := by simpa using hb
                    generalize hfl : flg b1 b2 b3 b4 = fl at *
                    go_wp2_with fail
                    go_meet
                    case rel => exact ⟨1, rfl, hide ⟨by simp [part1, hb'], by omega⟩, hide (by simpa [part1, hb'] using P0.out)⟩
                case rest =>
                  obtain ⟨n1, rfl, hn1, P1⟩ := hcut
                  clear P0
                  generalize hD1 : [flg b1 b2 b3 b4] ++ part1 b1 m = D1 at hn1 P1
                  have HD1 := hide hD1
                  clear hD1
                  generalize wc = wB at *
                  go_upto_if 83 with fail
                  go_cut [28] (fun en w' => ∃ n, en = .slice (some ⟨g, 0, none⟩) n 64 ∧ Hid (n = (D1 ++ part2 b2 m).length ∧ n ≤ 31) ∧ Hid (Put w0 w' g (D1 ++ part2 b2 m)))
                  case first =>
                    by_cases hb : b2 = false
                    · have hz : (bits .and .u8 (flg b1 b2 b3 b4 : Int) 128 == 0) = true := by simp [(flg128 b1 b2 b3 b4).2 hb]
                      have z1 := HZ1.out.symm
                      have z2 := HZ2.out.symm
                      have hl1 := uv_len64 OK.out.z1
                      have hl2 := uv_len64 OK.out.z2
                      have hle := hn1.out.2
                      have H40a := hide (fun w => f40_any w ns N1.out.1 N1.out.2)
                      have H40b := hide (fun w => f40_any w nss N2.out.1 N2.out.2)
                      rw [z1] at H40a
                      rw [z2] at H40b
                      clear z1 z2
                      have H16 := hide (f16_any wB g 64 n1 m.z1 D1 hn1.out.1.symm OK.out.z1 P1.out.own (by omega) (by omega))
                      have H16b := hide (fun w' (ho : Own w' g 64 (D1 ++ uv m.z1)) => f16_any w' g 64 (n1 + (uv m.z1).length) m.z2 (D1 ++ uv m.z1) (by have := hn1.out.1; simp; omega) OK.out.z2 ho (by omega) (by omega))
                      generalize flg b1 b2 b3 b4 = fl at *
                      go_wp2_with fail
                      refine (H40a.out _).mono ?_
                      rintro e w' ⟨rfl, rfl⟩
                      go_wp2_with fail
                      refine H16.out.mono ?_
                      rintro e w' ⟨rfl, hO, hC⟩
                      have HP := hide (P1.out.next hO hC)
                      clear hO hC
                      go_wp2_with fail
                      refine (H40b.out _).mono ?_
                      rintro e w'' ⟨rfl, rfl⟩
                      go_wp2_with fail
                      refine (H16b.out _ HP.out.own).mono ?_
                      rintro e w' ⟨rfl, hO, hC⟩
                      have HP2 := hide (HP.out.next hO hC)
                      clear hO hC
                      go_wp2_with fail
                      go_meet
                      case rel => exact ⟨_, rfl, hide ⟨by have := hn1.out.1; simp [part2, hb]; omega, by omega⟩, hide (by simpa [part2, hb] using HP2.out)⟩
                    · have hz : (bits .and .u8 (flg b1 b2 b3 b4 : Int) 128 == 0) = false := by simp; exact fun h => hb ((flg128 b1 b2 b3 b4).1 h)
                      have hb' : b2 = true := by simpa using hb
                      have hle := hn1.out.2
                      generalize hfl : flg b1 b2 b3 b4 = fl at *
                      go_wp2_with fail
                      go_meet
                      case rel => exact ⟨n1, rfl, hide ⟨by simpa [part2, hb'] using hn1.out.1, by omega⟩, hide (by simpa [part2, hb'] using P1.out)⟩
                  case rest =>
                    obtain ⟨n2, rfl, hn2, P2⟩ := hcut
                    clear P1 hn1
                    generalize hD2 : D1 ++ part2 b2 m = D2 at hn2 P2
                    have HD2 := hide hD2
                    clear hD2
                    generalize wc = wC at *
                    go_upto_if 93 with fail
                    go_cut [28] (fun en w' => ∃ n, en = .slice (some ⟨g, 0, none⟩) n 64 ∧ Hid (n = (D2 ++ part3 b3 m).length ∧ n ≤ 36) ∧ Hid (Put w0 w' g (D2 ++ part3 b3 m)))
                    case first =>
                      by_cases hb : b3 = true
                      · subst hb
                        have hle := hn2.out.2
                        generalize flg b1 b2 true b4 = fl at *
                        go_wp2_with fail
                        go_meet
                        case rel => exact ⟨n2, rfl, hide ⟨by simpa [part3] using hn2.out.1, by omega⟩, hide (by simpa [part3] using P2.out)⟩
                      · have hb' : b3 = false := by simpa using hb
                        subst hb'
                        have hle := hn2.out.2
                        have ht := HT.out.symm
                        have hl := uv_len32 OK.out.t
                        have H16 := hide (f16_any wC g 64 n2 m.t D2 hn2.out.1.symm (by have := OK.out.t; omega) P2.out.own (by omega) (by omega))
                        generalize flg b1 b2 false b4 = fl at *
                        go_wp2_with fail
                        refine H16.out.mono ?_
                        rintro e w' ⟨rfl, hO, hC⟩
                        have HP := hide (P2.out.next hO hC)
                        clear hO hC
                        go_wp2_with fail
                        go_meet
                        case rel => exact ⟨_, rfl, hide ⟨by have := hn2.out.1; simp [part3]; omega, by omega⟩, hide (by simpa [part3] using HP.out)⟩
                    case rest =>
                      obtain ⟨n3, rfl, hn3, P3⟩ := hcut
                      clear P2 hn2
                      generalize hD3 : D2 ++ part3 b3 m = D3 at hn3 P3
                      have HD3 := hide hD3
                      clear hD3
                      generalize wc = wD at *
                      go_upto_if 99 with fail
                      go_cut [28] (fun en w' => ∃ n, en = .slice (some ⟨g, 0, none⟩) n 64 ∧ Hid (n = (D3 ++ part4 b3 b4 m).length ∧ n ≤ 51) ∧ Hid (Put w0 w' g (D3 ++ part4 b3 b4 m)))
                      case first =>
                        by_cases hb : b4 = true
                        · subst hb
                          have hle := hn3.out.2
                          have hd1 := HD.out.symm
                          have hd2 : wrap64 (tS - aS) % 18446744073709551616 = (m.d : Int) := by rw [← hd1, IntKind.wrap_u64]
                          have hl := uv_len64 OK.out.d
                          have hlu := uv_len32 OK.out.u
                          have H16 := hide (f16_any wD g 64 n3 m.d D3 hn3.out.1.symm OK.out.d P3.out.own (by omega) (by omega))
                          have H16b := hide (fun w' (ho : Own w' g 64 (D3 ++ uv m.d)) => f16_any w' g 64 (n3 + (uv m.d).length) m.u (D3 ++ uv m.d) (by have := hn3.out.1; simp; omega) (by have := OK.out.u; omega) ho (by omega) (by omega))
                          by_cases hc : b3 = true
                          · subst hc
                            generalize flg b1 b2 true true = fl at *
                            go_wp2_with fail
                            refine H16.out.mono ?_
                            rintro e w' ⟨rfl, hO, hC⟩
                            have HP := hide (P3.out.next hO hC)
                            clear hO hC
                            go_wp2_with fail
                            go_meet
                            case rel => exact ⟨_, rfl, hide ⟨by have := hn3.out.1; simp [part4]; omega, by omega⟩, hide (by simpa [part4] using HP.out)⟩
                          · have hc' : b3 = false := by simpa using hc
                            subst hc'
                            have hu := HU.out.symm
                            generalize flg b1 b2 false true = fl at *
                            go_wp2_with fail
                            refine H16.out.mono ?_
                            rintro e w' ⟨rfl, hO, hC⟩
                            have HP := hide (P3.out.next hO hC)
                            clear hO hC
                            go_wp2_with fail
                            refine (H16b.out _ HP.out.own).mono ?_
                            rintro e w'' ⟨rfl, hO, hC⟩
                            have HP2 := hide (HP.out.next hO hC)
                            clear hO hC
                            go_wp2_with fail
                            go_meet
                            case rel => exact ⟨_, rfl, hide ⟨by have := hn3.out.1; simp [part4]; omega, by omega⟩, hide (by simpa [part4] using HP2.out)⟩
                        · have hb' : b4 = false := by simpa using hb
                          subst hb'
                          have hle := hn3.out.2
                          generalize flg b1 b2 b3 false = fl at *
                          go_wp2_with fail
                          go_meet
                          case rel => exact ⟨n3, rfl, hide ⟨by simpa [part4] using hn3.out.1, by omega⟩, hide (by simpa [part4] using P3.out)⟩
                      case rest =>
                        obtain ⟨n4, rfl, hn4, P4⟩ := hcut
                        have hD : D3 ++ part4 b3 b4 m = recd b1 b2 b3 b4 m := by rw [← HD3.out, ← HD2.out, ← HD1.out, recd]; simp
                        rw [hD] at hn4 P4
                        have H5 := hide hn4.out.1
                        clear hD
                        go_wp2
                        go_ret
                        exact ⟨g, by rw [← H5.out]; rfl, P4.out⟩
end Go.Proofs.Qxb6000182a
