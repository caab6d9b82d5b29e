import Derived.Test.Qxb6000095aRows
import Derived.Test.Qxb6000095aFirst
import Derived.Deep.Slices
import Derived.WalkKit
import Derived.ProofKit
import Derived.OpenShut
import Derived.ShutString
import Derived.ChangeOld
import Derived.Below
namespace Go.Proofs.Qxb6000095a.fnOfAnswersTheFirstRowOfParticipantAndYear
open Go.ChangeShapes Go.WideShapes Go.ChangeAt Go.RowKit
open Go.ChangeMaps (open_string shut_string)
set_option linter.unusedVariables false
set_option linter.unusedSimpArgs false

theorem own : ownKnob Try.prog.godebug = none := by kernel_rfl
theorem laidOut : laidOutB Try.prog = true := by kernel_rfl
theorem cells33 : Try.prog.cellsOf 33 = 4 := by kernel_rfl
theorem cells9 : Try.prog.cellsOf 9 = 1 := by kernel_rfl
theorem cells21 : Try.prog.cellsOf 21 = 1 := by kernel_rfl
theorem cells31 : Try.prog.cellsOf 31 = 1 := by kernel_rfl

theorem bd32 {n : Int} (h : (Lit.int .i32 n).wf = true) : -2147483648 ≤ n ∧ n ≤ 2147483647 := by
  have e0 : IntKind.i32.min = -2147483648 := by decide
  have e1 : IntKind.i32.max = 2147483647 := by decide
  simpa [Lit.wf, e0, e1] using h
theorem bd16 {n : Int} (h : (Lit.int .i16 n).wf = true) : -32768 ≤ n ∧ n ≤ 32767 := by
  have e0 : IntKind.i16.min = -32768 := by decide
  have e1 : IntKind.i16.max = 32767 := by decide
  simpa [Lit.wf, e0, e1] using h
theorem bd64 {n : Int} (h : (Lit.int .i64 n).wf = true) : -9223372036854775808 ≤ n ∧ n ≤ 9223372036854775807 := by
  have e0 : IntKind.i64.min = -9223372036854775808 := by decide
  have e1 : IntKind.i64.max = 9223372036854775807 := by decide
  simpa [Lit.wf, e0, e1] using h

theorem open_frows {H : Type} {enc : TypeId × Value → H} {w : World} {base : Nat} {spare : Nat → Bool} {held : Bool} {fuel : Nat} {a : Option Addr} {len cap : Nat} {x : DataW H × List MemPlace}
    (h : DataW.trod enc Try.prog w base spare held fuel 22 [.slice a len cap] = some x) : ∃ PA YR GR LN, IsFRows w a len cap PA YR GR LN ∧ FFit len PA YR GR LN := by
  rcases Go.Deep.open_slice Try.underlying22 h with ⟨hcs, _⟩ | ⟨ad, l, c, m, n, D, Pl, hcs, _, hl, hm, hmm, _, hx⟩
  · simp at hcs
    obtain ⟨rfl, rfl, rfl⟩ := hcs
    exact ⟨fun _ => ⟨#[]⟩, fun _ => 0, fun _ => ⟨#[]⟩, fun _ => 0, .inl ⟨rfl, rfl, rfl⟩, fun i hi => absurd hi (Nat.not_lt_zero _)⟩
  · simp at hcs
    obtain ⟨rfl, rfl, rfl⟩ := hcs
    have hlm : len ≤ m := by rw [hmm]; split <;> omega
    have each : ∀ i, i < len → ∃ q : ByteArray × Int × ByteArray × Int, FCells w (ad.add (i * 4)) (ad.add (i * 4 + 1)) (ad.add (i * 4 + 2)) (ad.add (i * 4 + 3)) q.1 q.2.1 q.2.2.1 q.2.2.2 ∧
        (q.1.size ≤ maxLen ∧ q.2.2.1.size ≤ maxLen ∧ -32768 ≤ q.2.1 ∧ q.2.1 ≤ 32767 ∧ -2147483648 ≤ q.2.2.2 ∧ q.2.2.2 ≤ 2147483647) := by
      intro i hi
      obtain ⟨cs', h1, h2⟩ := hx i (by omega)
      rw [cells33] at h1
      obtain ⟨_, hlen, hcell⟩ := World.cells?_some h1
      obtain ⟨xs, k, _, _, _, hxl, hf⟩ := DataW.trod_struct Try.underlying33 h2
      match xs, hxl, cs', hlen with
      | [y0, y1, y2, y3], _, [v0, v1, v2, v3], _ =>
        have g0 := hf 0 _ rfl
        have g1 := hf 1 _ rfl
        have g2 := hf 2 _ rfl
        have g3 := hf 3 _ rfl
        simp [cells21, cells31, cells9] at g0 g1 g2 g3
        obtain ⟨l0, e0, _, w0⟩ := DataW.trod_string Try.underlying9 g0
        obtain ⟨l1, e1, _, w1⟩ := DataW.trod_int Try.underlying31 g1
        obtain ⟨l2, e2, _, w2⟩ := DataW.trod_string Try.underlying9 g2
        obtain ⟨l3, e3, _, w3⟩ := DataW.trod_int Try.underlying21 g3
        simp at e0 e1 e2 e3
        subst e0 e1 e2 e3
        have c0 := hcell 0 (by omega)
        have c1 := hcell 1 (by omega)
        have c2 := hcell 2 (by omega)
        have c3 := hcell 3 (by omega)
        rw [Go.Deep.add_add] at c0 c1 c2 c3
        have b1 := bd16 w1
        have b3 := bd32 w3
        exact ⟨(l0, l1, l2, l3), ⟨by simpa using c0, by simpa using c1, by simpa using c2, by simpa using c3⟩, w0, w2, b1.1, b1.2, b3.1, b3.2⟩
    obtain ⟨q, hq⟩ := Go.Deep.choose_lt each
    exact ⟨fun i => (q i).1, fun i => (q i).2.1, fun i => (q i).2.2.1, fun i => (q i).2.2.2, .inr ⟨ad, rfl, hl, hm, fun i hi => (hq i hi).1⟩, fun i hi => (hq i hi).2⟩

set_option maxRecDepth 100000 in
theorem lifted (os : Os) (started : os.Started) (H : Type) (enc : TypeId × Value → H) :
    ReturnsInHanded {} Try.checked os 3 .any (Rows.fnOfAnswersTheFirstRowOfParticipantAndYearSpec.pre6 enc Try.prog Try.f3 Rows.fnOfAnswersTheFirstRowOfParticipantAndYearRow.domain false) (Rows.fnOfAnswersTheFirstRowOfParticipantAndYearSpec.post enc Try.prog Try.f3 false true false false) := by
  refine returnsInHanded_of_change (C := Try.checked) own started (by kernel_rfl) Try.func3
    (ChangeSpec.witness6 (enc := enc) (C := Try.checked) false ⟨#[], #[.slice none 0 0, .string ⟨#[]⟩, .int .i64 0], []⟩ 8 (by kernel_rfl) (by kernel_rfl) (by kernel_rfl) (by kernel_rfl)) ?_
  intro W base args ds gs before hval0 hW hcnd _
  have hval : ∀ (j : Nat) t v, Try.f3.params[j]? = some t → args[j]? = some v → Value.okWide Try.prog W .any base t v := hval0
  have hW' := hW
  obtain ⟨p, q, hA0, hV, rfl, hfz, hnd⟩ := hW
  have hA : DataW.TrodAll enc Try.prog W 0 (fun _ => true) true Try.f3.params.toList args.toList ds p := hA0
  rw [Try.params3] at hA hval
  obtain ⟨v0, vs0, d0, ds0, p0, q0, hargs, rfl, rfl, h0, r0⟩ := trodAll_cons hA
  obtain ⟨v1, vs1, d1, ds1, p1, q1, rfl, rfl, rfl, h1, r1⟩ := trodAll_cons r0
  obtain ⟨v2, vs2, d2, ds2, p2, q2, rfl, rfl, rfl, h2, r2⟩ := trodAll_cons r1
  obtain ⟨rfl, rfl, rfl⟩ := trodAll_nil r2
  obtain rfl : args = #[v0, v1, v2] := by cases args; simp_all
  obtain ⟨rfl, rfl⟩ := trodVars_none hV
  obtain ⟨a0, len0, cap0, rfl⟩ := okWide_slice Try.underlying22 (hval 0 22 v0 rfl rfl)
  have k0 := h0
  have lt0 : ∀ x ∈ p0, x.block < W.heap.size := by obtain ⟨m, hm⟩ := k0; exact DataW.trod_lt m _ _ _ hm
  obtain ⟨PA, YR, GR, LN, w0, wf⟩ : ∃ PA YR GR LN, IsFRows W a0 len0 cap0 PA YR GR LN ∧ FFit len0 PA YR GR LN := by
    obtain ⟨fuel, hf⟩ := h0
    exact open_frows (by simpa [Value.cells] using hf)
  obtain ⟨s1, rfl, rfl, rfl, hs1⟩ := open_string Try.underlying9 (hval 1 9 v1 rfl rfl) h1
  obtain ⟨a2, rfl, rfl, rfl, w2⟩ := open_int Try.underlying3 (hval 2 3 v2 rfl rfl) h2
  clear hA0 hval0
  refine (f3_walk W a0 len0 cap0 PA YR GR LN s1 a2 w0 wf hs1 (bd64 w2).1 (bd64 w2).2).mono fun e W' ⟨he, bel⟩ => ?_
  subst he
  exact ⟨_, rfl, _, _, _, [], _, [], hW', trodAll_mk1 (shut_bool Try.underlying4 _), (trodAll_cons_mk (Below.trod laidOut (by kernel_rfl) (of_decide_eq_true (by kernel_rfl)) k0 bel lt0) (trodAll_cons_mk (shut_string Try.underlying9 hs1) (trodAll_cons_mk (shut_int Try.underlying3 w2) trodAll_mk0))), rfl, bel.frame _, fun h => by cases h⟩

theorem over : Rows.fnOfAnswersTheFirstRowOfParticipantAndYearRow.holds Try.pinned (OpenSpec.ofChange Rows.fnOfAnswersTheFirstRowOfParticipantAndYearSpec) :=
  OpenClaim.holds_of_wide 3 Try.f3 rfl rfl rfl rfl rfl rfl rfl ⟨rfl, rfl, rfl, rfl, rfl⟩ rfl rfl rfl rfl rfl (by kernel_rfl) Try.func3 (by kernel_rfl)
    (of_decide_eq_true (by kernel_rfl)) (by unfold Func.isWrapper; first | (rw [if_pos (by decide +kernel)]; kernel_rfl) | (rw [if_neg (by decide +kernel)]; exact ⟨rfl, rfl⟩))
    (fun os started H enc _ => lifted os started H enc)

/-- THE STATEMENT -/
theorem proved : Rows.FnOfAnswersTheFirstRowOfParticipantAndYearSaid := over
#print axioms proved
end Go.Proofs.Qxb6000095a.fnOfAnswersTheFirstRowOfParticipantAndYear
