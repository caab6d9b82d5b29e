import Derived.Test.Qxb6000182aRows
import Derived.WalkKit
import Derived.ProofKit
import Derived.OpenShut
import Derived.ShutString
import Derived.ChangeOld
import Derived.Below
import Derived.Test.Qxb6000182aFacts
import Derived.Test.Qxb6000182aHornerLaw
/-! FnLongUvarintAtMatchesHornerModel: the frame that ties the walk to the given statement. -/
namespace Go.Proofs.Qxb6000182a.fnLongUvarintAtMatchesHornerModel
open Go.ChangeShapes Go.WideShapes Go.ChangeAt Go.RowKit
open Go.ChangeMaps (open_string shut_string)
set_option linter.unusedVariables false

theorem laidOut : laidOutB Try.prog = true := fact2

/-- WHAT THE WALK IS TOLD OF A SLICE OF INTEGERS THAT CAME IN: it is nil; or it leads to a row of 'cap' cells, the numbers 'zs' (the first 'len' are its elements, the rest its spare room), each fitting its kind. -/
def IsRow (k : IntKind) (w : World) (a : Option Addr) (len cap : Nat) (zs : List Int) : Prop :=
  (a = none ∧ len = 0 ∧ cap = 0 ∧ zs = []) ∨
  ∃ x, a = some x ∧ len ≤ cap ∧ cap ≤ maxLen ∧ zs.length = cap ∧ (∀ i, i < zs.length → w.cell? (x.add i) = some (.int k (zs.getD i 0))) ∧ ∀ n ∈ zs, (Lit.int k n).wf = true

/-! ### The walk -/
theorem walk (a0 : Option Addr) (len0 cap0 : Nat) (z0 : List Int) (a1 : Int) (w : World) (w0 : IsRow .u8 w a0 len0 cap0 z0) (w1 : (Lit.int .i64 a1).wf = true) :
    Calls Try.prog 3 #[.slice a0 len0 cap0, .int .i64 a1] w fun e w' => e = .returned (.bool true) ∧ Below w.heap.size w w' := by
  have hw1 : a1 ≤ 9223372036854775807 := by
    have h1 : IntKind.i64.max = 9223372036854775807 := rfl
    simp [Lit.wf] at w1
    omega
  obtain ⟨hm, l, hl, hb, h⟩ := bytes_of w a0 len0 cap0 z0 w0
  exact f3_any a0 l len0 cap0 a1 w hw1 hl hm hb h

/-! ### The row's step -/
set_option maxRecDepth 100000 in
theorem lifted (os : Os) (started : os.Started) (H : Type) (enc : TypeId × Value → H) :
    ReturnsInHanded {} Try.checked os 3 .any (Rows.fnLongUvarintAtMatchesHornerModelSpec.pre6 enc Try.prog Try.f3 Rows.fnLongUvarintAtMatchesHornerModelRow.domain false) (Rows.fnLongUvarintAtMatchesHornerModelSpec.post enc Try.prog Try.f3 false true false false) := by
  refine returnsInHanded_of_change (C := Try.checked) own started (by kernel_rfl) Try.func3
    (ChangeSpec.witness6 (enc := enc) (C := Try.checked) false ⟨#[], #[.slice none 0 0, .int .i64 0], []⟩ 8 (by kernel_rfl) (by kernel_rfl) (by kernel_rfl) (by kernel_rfl)) ?_
  intro W base args ds gs before hval0 hW hcnd _
  have hval : ∀ (j : Nat) t v, Try.f3.params[j]? = some t → args[j]? = some v → Value.okWide Try.prog W .any base t v := hval0
  have hW' := hW
  obtain ⟨p, q, hA0, hV, rfl, hfz, hnd⟩ := hW
  have hA : DataW.TrodAll enc Try.prog W 0 (fun _ => true) true Try.f3.params.toList args.toList ds p := hA0
  rw [Try.params3] at hA hval
  obtain ⟨v0, vs0, d0, ds0, p0, q0, hargs, rfl, rfl, h0, r0⟩ := trodAll_cons hA
  obtain ⟨v1, vs1, d1, ds1, p1, q1, rfl, rfl, rfl, h1, r1⟩ := trodAll_cons r0
  obtain ⟨rfl, rfl, rfl⟩ := trodAll_nil r1
  obtain rfl : args = #[v0, v1] := by cases args; simp_all
  obtain ⟨rfl, rfl⟩ := trodVars_none hV
  obtain ⟨a0, len0, cap0, rfl⟩ := okWide_slice Try.underlying22 (hval 0 22 v0 rfl rfl)
  have k0 := h0
  have lt0 : ∀ x ∈ p0, x.block < W.heap.size := by obtain ⟨m, hm⟩ := k0; exact DataW.trod_lt m _ _ _ hm
  obtain ⟨z0, w0⟩ : ∃ zs, IsRow .u8 W a0 len0 cap0 zs := by
    obtain ⟨fuel, hf⟩ := h0
    rcases open_ints Try.underlying22 Try.underlying5 (by kernel_rfl) hf with ⟨hcs, _⟩ | ⟨x, l, c, zs, hcs, _, hl, hm, hz, _, hcell, hwz⟩
    · simp [Value.cells] at hcs
      obtain ⟨rfl, rfl, rfl⟩ := hcs
      exact ⟨[], .inl ⟨rfl, rfl, rfl, rfl⟩⟩
    · simp [Value.cells] at hcs
      obtain ⟨rfl, rfl, rfl⟩ := hcs
      exact ⟨zs, .inr ⟨_, rfl, hl, hm, by simpa using hz, hcell, hwz⟩⟩
  obtain ⟨a1, rfl, rfl, rfl, w1⟩ := open_int Try.underlying3 (hval 1 3 v1 rfl rfl) h1
  clear hA0 hval0
  refine (walk a0 len0 cap0 z0 a1 W w0 w1).mono fun e W' ⟨he, bel⟩ => ?_
  subst he
  exact ⟨_, rfl, _, _, _, [], _, [], hW', trodAll_mk1 (shut_bool Try.underlying4 _), (trodAll_cons_mk (Below.trod laidOut (by kernel_rfl) (of_decide_eq_true (by kernel_rfl)) k0 bel lt0) (trodAll_cons_mk (shut_int Try.underlying3 w1) trodAll_mk0)), rfl, bel.frame _, fun h => by cases h⟩

theorem cell1 : Rows.fnLongUvarintAtMatchesHornerModelRow.wf (OpenSpec.ofChange Rows.fnLongUvarintAtMatchesHornerModelSpec) = true := by kernel_rfl
theorem cell4 : Try.f3.params.all (Try.prog.readableRec ·) = true := by kernel_rfl
theorem cell5 : namedTie Try.prog Rows.fnLongUvarintAtMatchesHornerModelRow.named Rows.fnLongUvarintAtMatchesHornerModelSpec.vars = true := by kernel_rfl
theorem cell6 : (Rows.fnLongUvarintAtMatchesHornerModelRow.stops == []) = true := by kernel_rfl
theorem cell8 : (Rows.fnLongUvarintAtMatchesHornerModelRow.knobs == []) = true := by kernel_rfl
theorem cell10 : (Rows.fnLongUvarintAtMatchesHornerModelRow.inPlace == Try.prog.inPlace 3) = true := by kernel_rfl
theorem cell11 : (Rows.fnLongUvarintAtMatchesHornerModelRow.unfollowed == Try.prog.unfollowed 3) = true := by kernel_rfl
theorem cell12 : (Rows.fnLongUvarintAtMatchesHornerModelRow.recurses == Try.prog.recurses 3) = true := by kernel_rfl
theorem cell13 : (Rows.fnLongUvarintAtMatchesHornerModelRow.named == Try.prog.varsNamed 3) = true := by kernel_rfl
theorem cell14 : (Rows.fnLongUvarintAtMatchesHornerModelRow.maps == (Try.f3.params.toList ++ Rows.fnLongUvarintAtMatchesHornerModelSpec.plain.varTypes Try.prog).any (Try.prog.mapsRec ·)) = true := by kernel_rfl
theorem cell15 : (Rows.fnLongUvarintAtMatchesHornerModelRow.ifaces == (Try.f3.params.toList ++ Rows.fnLongUvarintAtMatchesHornerModelSpec.plain.varTypes Try.prog).any (Try.prog.ifacesRec ·)) = true := by kernel_rfl
theorem cell16 : (Rows.fnLongUvarintAtMatchesHornerModelRow.mapsOut == Try.prog.mapsAmong Try.f3.resultTypes.toList) = true := by kernel_rfl
theorem cell17 : (Rows.fnLongUvarintAtMatchesHornerModelRow.loops == (Try.f3.params.toList ++ Rows.fnLongUvarintAtMatchesHornerModelSpec.plain.varTypes Try.prog).any (Try.prog.loopsFrom ·)) = true := by kernel_rfl
theorem cell18 : (Rows.fnLongUvarintAtMatchesHornerModelRow.wideKeys == (Try.f3.params.toList ++ Rows.fnLongUvarintAtMatchesHornerModelSpec.plain.varTypes Try.prog ++ Try.f3.resultTypes.toList).any (Try.prog.wideKeysFrom ·)) = true := by kernel_rfl
theorem cell19 : Rows.fnLongUvarintAtMatchesHornerModelSpec.vars.all (Try.prog.varReadable ·) = true := by kernel_rfl
theorem cell20 : Try.f3.resultTypes.all (fun t => Try.prog.readableRec t && decide (t < Try.prog.types.size)) = true := by kernel_rfl
theorem cell21 : (Rows.fnLongUvarintAtMatchesHornerModelRow.ifacesOut == Try.f3.resultTypes.toList.any (Try.prog.ifacesRec ·)) = true := by kernel_rfl
theorem cell22 : (Rows.fnLongUvarintAtMatchesHornerModelRow.loopsOut == Try.f3.resultTypes.toList.any (Try.prog.loopsFrom ·)) = true := by kernel_rfl
theorem cell24 : Rows.fnLongUvarintAtMatchesHornerModelRow.shortTexts.isNone = true := by kernel_rfl
theorem cell29 : (Rows.fnLongUvarintAtMatchesHornerModelRow.kinds == (if Rows.fnLongUvarintAtMatchesHornerModelRow.domain.isEmpty then [] else Try.f3.params.toList.map fun t => match Try.prog.underlying t with | some (.int k) => some k | _ => none)) = true := by kernel_rfl
theorem cell30 : (Rows.fnLongUvarintAtMatchesHornerModelRow.pinned == Rows.fnLongUvarintAtMatchesHornerModelRow.pinnedBy) = true := by kernel_rfl
theorem cell31 : (Rows.fnLongUvarintAtMatchesHornerModelRow.veiled == (Try.f3.params.toList ++ Rows.fnLongUvarintAtMatchesHornerModelSpec.plain.varTypes Try.prog ++ Try.f3.resultTypes.toList).any (Try.prog.veiledRec ·)) = true := by kernel_rfl
theorem cell32 : Rows.fnLongUvarintAtMatchesHornerModelRow.veiledFits Try.prog Try.f3.params.toList (Try.f3.params.toList ++ Rows.fnLongUvarintAtMatchesHornerModelSpec.plain.varTypes Try.prog ++ Try.f3.resultTypes.toList) = true := by kernel_rfl
theorem closed : joinedFacts Try.prog 3 Try.f3 Rows.fnLongUvarintAtMatchesHornerModelSpec Rows.fnLongUvarintAtMatchesHornerModelRow = true :=
  both (both (both (both (both (both (both (both (both (both (both (both (both (both (both (both (both (both (both (both (both (both (both (both (both (both (both (both (both (both (both cell1 fact2) fact3) cell4) cell5) cell6) fact7) cell8) fact9) cell10) cell11) cell12) cell13) cell14) cell15) cell16) cell17) cell18) cell19) cell20) cell21) cell22) fact23) cell24) fact25) fact26) fact27) fact28) cell29) cell30) cell31) cell32


theorem over : Rows.fnLongUvarintAtMatchesHornerModelRow.holds Try.pinned (OpenSpec.ofChange Rows.fnLongUvarintAtMatchesHornerModelSpec) :=
  OpenClaim.holds_of_wide 3 Try.f3 rfl rfl rfl rfl rfl rfl rfl ⟨rfl, rfl, rfl, rfl, rfl⟩ rfl rfl rfl rfl rfl (by kernel_rfl) Try.func3 closed
    (of_decide_eq_true (by kernel_rfl)) (by unfold Func.isWrapper; first | (rw [if_pos (by decide +kernel)]; kernel_rfl) | (rw [if_neg (by decide +kernel)]; exact ⟨rfl, rfl⟩))
    (fun os started H enc _ => lifted os started H enc)

/-- THE STATEMENT -/
theorem proved : Rows.FnLongUvarintAtMatchesHornerModelSaid := over
#print axioms proved
end Go.Proofs.Qxb6000182a.fnLongUvarintAtMatchesHornerModel
