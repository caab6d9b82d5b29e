import Derived.Test.Qxb6000182aRows
import Derived.WalkKit
import Derived.ProofKit
import Derived.OpenShut
import Derived.ShutString
import Derived.ChangeOld
import Derived.Below
import Derived.Test.Qxb6000182aFacts
import Derived.Test.Qxb6000182aRefuse
/-! FnPlaceRefusesCutRecordAndRetries: the frame that ties the walk to the given statement. -/
namespace Go.Proofs.Qxb6000182a.fnPlaceRefusesCutRecordAndRetries
open Go.ChangeShapes Go.WideShapes Go.ChangeAt Go.RowKit
open Go.ChangeMaps (open_string shut_string)
set_option linter.unusedVariables false      -- a walk need not use every 'w<i>' (that an integer argument fits its kind)


/-! ### The walk -/
theorem walk (a0 : Int) (a1 : Int) (a2 : Int) (a3 : Int) (a4 : Int) (a5 : Int) (a6 : Int) (a7 : Int) (a8 : Int) (a9 : Int) (a10 : Int) (w0 : (Lit.int .i64 a0).wf = true) (w1 : (Lit.int .i64 a1).wf = true) (w2 : (Lit.int .i64 a2).wf = true) (w3 : (Lit.int .i64 a3).wf = true) (w4 : (Lit.int .i64 a4).wf = true) (w5 : (Lit.int .i64 a5).wf = true) (w6 : (Lit.int .i64 a6).wf = true) (w7 : (Lit.int .i64 a7).wf = true) (w8 : (Lit.int .i32 a8).wf = true) (w9 : (Lit.int .i64 a9).wf = true) (w10 : (Lit.int .i32 a10).wf = true) (w : World) :
    Calls Try.prog 7 #[.int .i64 a0, .int .i64 a1, .int .i64 a2, .int .i64 a3, .int .i64 a4, .int .i64 a5, .int .i64 a6, .int .i64 a7, .int .i32 a8, .int .i64 a9, .int .i32 a10] w fun e w' => e = .returned (.bool true) ∧ Below w.heap.size w w' := by
  exact f7_any a0 a1 a2 a3 a4 a5 a6 a7 a8 a9 a10 w (i64_of_wf w5) (i64_of_wf w6) (i64_of_wf w7) (i32_of_wf w8) (i64_of_wf w9) (i32_of_wf w10)

/-! ### The row's step -/
set_option maxRecDepth 100000 in
theorem lifted (os : Os) (started : os.Started) (H : Type) (enc : TypeId × Value → H) :
    ReturnsInHanded {} Try.checked os 7 .any (Rows.fnPlaceRefusesCutRecordAndRetriesSpec.pre6 enc Try.prog Try.f7 Rows.fnPlaceRefusesCutRecordAndRetriesRow.domain false) (Rows.fnPlaceRefusesCutRecordAndRetriesSpec.post enc Try.prog Try.f7 false true false false) := by
  refine returnsInHanded_of_change (C := Try.checked) own started (by kernel_rfl) Try.func7
    (ChangeSpec.witness6 (enc := enc) (C := Try.checked) false ⟨#[], #[.int .i64 0, .int .i64 0, .int .i64 0, .int .i64 0, .int .i64 0, .int .i64 0, .int .i64 0, .int .i64 0, .int .i32 0, .int .i64 0, .int .i32 0], []⟩ 8 (by kernel_rfl) (by kernel_rfl) (by kernel_rfl) (by kernel_rfl)) ?_
  intro W base args ds gs before hval0 hW hcnd _
  have hval : ∀ (j : Nat) t v, Try.f7.params[j]? = some t → args[j]? = some v → Value.okWide Try.prog W .any base t v := hval0
  have hW' := hW
  obtain ⟨p, q, hA0, hV, rfl, hfz, hnd⟩ := hW
  have hA : DataW.TrodAll enc Try.prog W 0 (fun _ => true) true Try.f7.params.toList args.toList ds p := hA0
  rw [Try.params7] at hA hval
  obtain ⟨v0, vs0, d0, ds0, p0, q0, hargs, rfl, rfl, h0, r0⟩ := trodAll_cons hA
  obtain ⟨v1, vs1, d1, ds1, p1, q1, rfl, rfl, rfl, h1, r1⟩ := trodAll_cons r0
  obtain ⟨v2, vs2, d2, ds2, p2, q2, rfl, rfl, rfl, h2, r2⟩ := trodAll_cons r1
  obtain ⟨v3, vs3, d3, ds3, p3, q3, rfl, rfl, rfl, h3, r3⟩ := trodAll_cons r2
  obtain ⟨v4, vs4, d4, ds4, p4, q4, rfl, rfl, rfl, h4, r4⟩ := trodAll_cons r3
  obtain ⟨v5, vs5, d5, ds5, p5, q5, rfl, rfl, rfl, h5, r5⟩ := trodAll_cons r4
  obtain ⟨v6, vs6, d6, ds6, p6, q6, rfl, rfl, rfl, h6, r6⟩ := trodAll_cons r5
  obtain ⟨v7, vs7, d7, ds7, p7, q7, rfl, rfl, rfl, h7, r7⟩ := trodAll_cons r6
  obtain ⟨v8, vs8, d8, ds8, p8, q8, rfl, rfl, rfl, h8, r8⟩ := trodAll_cons r7
  obtain ⟨v9, vs9, d9, ds9, p9, q9, rfl, rfl, rfl, h9, r9⟩ := trodAll_cons r8
  obtain ⟨v10, vs10, d10, ds10, p10, q10, rfl, rfl, rfl, h10, r10⟩ := trodAll_cons r9
  obtain ⟨rfl, rfl, rfl⟩ := trodAll_nil r10
  obtain rfl : args = #[v0, v1, v2, v3, v4, v5, v6, v7, v8, v9, v10] := by cases args; simp_all
  obtain ⟨rfl, rfl⟩ := trodVars_none hV
  obtain ⟨a0, rfl, rfl, rfl, w0⟩ := open_int Try.underlying2 (hval 0 2 v0 rfl rfl) h0
  obtain ⟨a1, rfl, rfl, rfl, w1⟩ := open_int Try.underlying3 (hval 1 3 v1 rfl rfl) h1
  obtain ⟨a2, rfl, rfl, rfl, w2⟩ := open_int Try.underlying3 (hval 2 3 v2 rfl rfl) h2
  obtain ⟨a3, rfl, rfl, rfl, w3⟩ := open_int Try.underlying2 (hval 3 2 v3 rfl rfl) h3
  obtain ⟨a4, rfl, rfl, rfl, w4⟩ := open_int Try.underlying3 (hval 4 3 v4 rfl rfl) h4
  obtain ⟨a5, rfl, rfl, rfl, w5⟩ := open_int Try.underlying3 (hval 5 3 v5 rfl rfl) h5
  obtain ⟨a6, rfl, rfl, rfl, w6⟩ := open_int Try.underlying3 (hval 6 3 v6 rfl rfl) h6
  obtain ⟨a7, rfl, rfl, rfl, w7⟩ := open_int Try.underlying2 (hval 7 2 v7 rfl rfl) h7
  obtain ⟨a8, rfl, rfl, rfl, w8⟩ := open_int Try.underlying21 (hval 8 21 v8 rfl rfl) h8
  obtain ⟨a9, rfl, rfl, rfl, w9⟩ := open_int Try.underlying2 (hval 9 2 v9 rfl rfl) h9
  obtain ⟨a10, rfl, rfl, rfl, w10⟩ := open_int Try.underlying21 (hval 10 21 v10 rfl rfl) h10
  clear hA0 hval0
  simp only [List.append_nil] at hW'
  refine (walk a0 a1 a2 a3 a4 a5 a6 a7 a8 a9 a10 w0 w1 w2 w3 w4 w5 w6 w7 w8 w9 w10 W).mono fun e W' ⟨he, bel⟩ => ?_
  subst he
  exact ⟨_, rfl, _, _, _, [], _, [], hW', trodAll_mk1 (shut_bool Try.underlying4 _), (trodAll_cons_mk (shut_int Try.underlying2 w0) (trodAll_cons_mk (shut_int Try.underlying3 w1) (trodAll_cons_mk (shut_int Try.underlying3 w2) (trodAll_cons_mk (shut_int Try.underlying2 w3) (trodAll_cons_mk (shut_int Try.underlying3 w4) (trodAll_cons_mk (shut_int Try.underlying3 w5) (trodAll_cons_mk (shut_int Try.underlying3 w6) (trodAll_cons_mk (shut_int Try.underlying2 w7) (trodAll_cons_mk (shut_int Try.underlying21 w8) (trodAll_cons_mk (shut_int Try.underlying2 w9) (trodAll_cons_mk (shut_int Try.underlying21 w10) trodAll_mk0))))))))))), rfl, bel.frame _, fun h => by cases h⟩

theorem cell1 : Rows.fnPlaceRefusesCutRecordAndRetriesRow.wf (OpenSpec.ofChange Rows.fnPlaceRefusesCutRecordAndRetriesSpec) = true := by kernel_rfl
theorem cell4 : Try.f7.params.all (Try.prog.readableRec ·) = true := by kernel_rfl
theorem cell5 : namedTie Try.prog Rows.fnPlaceRefusesCutRecordAndRetriesRow.named Rows.fnPlaceRefusesCutRecordAndRetriesSpec.vars = true := by kernel_rfl
theorem cell6 : (Rows.fnPlaceRefusesCutRecordAndRetriesRow.stops == []) = true := by kernel_rfl
theorem cell8 : (Rows.fnPlaceRefusesCutRecordAndRetriesRow.knobs == []) = true := by kernel_rfl
theorem cell10 : (Rows.fnPlaceRefusesCutRecordAndRetriesRow.inPlace == Try.prog.inPlace 7) = true := by kernel_rfl
theorem cell11 : (Rows.fnPlaceRefusesCutRecordAndRetriesRow.unfollowed == Try.prog.unfollowed 7) = true := by kernel_rfl
theorem cell12 : (Rows.fnPlaceRefusesCutRecordAndRetriesRow.recurses == Try.prog.recurses 7) = true := by kernel_rfl
theorem cell13 : (Rows.fnPlaceRefusesCutRecordAndRetriesRow.named == Try.prog.varsNamed 7) = true := by kernel_rfl
theorem cell14 : (Rows.fnPlaceRefusesCutRecordAndRetriesRow.maps == (Try.f7.params.toList ++ Rows.fnPlaceRefusesCutRecordAndRetriesSpec.plain.varTypes Try.prog).any (Try.prog.mapsRec ·)) = true := by kernel_rfl
theorem cell15 : (Rows.fnPlaceRefusesCutRecordAndRetriesRow.ifaces == (Try.f7.params.toList ++ Rows.fnPlaceRefusesCutRecordAndRetriesSpec.plain.varTypes Try.prog).any (Try.prog.ifacesRec ·)) = true := by kernel_rfl
theorem cell16 : (Rows.fnPlaceRefusesCutRecordAndRetriesRow.mapsOut == Try.prog.mapsAmong Try.f7.resultTypes.toList) = true := by kernel_rfl
theorem cell17 : (Rows.fnPlaceRefusesCutRecordAndRetriesRow.loops == (Try.f7.params.toList ++ Rows.fnPlaceRefusesCutRecordAndRetriesSpec.plain.varTypes Try.prog).any (Try.prog.loopsFrom ·)) = true := by kernel_rfl
theorem cell18 : (Rows.fnPlaceRefusesCutRecordAndRetriesRow.wideKeys == (Try.f7.params.toList ++ Rows.fnPlaceRefusesCutRecordAndRetriesSpec.plain.varTypes Try.prog ++ Try.f7.resultTypes.toList).any (Try.prog.wideKeysFrom ·)) = true := by kernel_rfl
theorem cell19 : Rows.fnPlaceRefusesCutRecordAndRetriesSpec.vars.all (Try.prog.varReadable ·) = true := by kernel_rfl
theorem cell20 : Try.f7.resultTypes.all (fun t => Try.prog.readableRec t && decide (t < Try.prog.types.size)) = true := by kernel_rfl
theorem cell21 : (Rows.fnPlaceRefusesCutRecordAndRetriesRow.ifacesOut == Try.f7.resultTypes.toList.any (Try.prog.ifacesRec ·)) = true := by kernel_rfl
theorem cell22 : (Rows.fnPlaceRefusesCutRecordAndRetriesRow.loopsOut == Try.f7.resultTypes.toList.any (Try.prog.loopsFrom ·)) = true := by kernel_rfl
theorem cell24 : Rows.fnPlaceRefusesCutRecordAndRetriesRow.shortTexts.isNone = true := by kernel_rfl
theorem cell29 : (Rows.fnPlaceRefusesCutRecordAndRetriesRow.kinds == (if Rows.fnPlaceRefusesCutRecordAndRetriesRow.domain.isEmpty then [] else Try.f7.params.toList.map fun t => match Try.prog.underlying t with | some (.int k) => some k | _ => none)) = true := by kernel_rfl
theorem cell30 : (Rows.fnPlaceRefusesCutRecordAndRetriesRow.pinned == Rows.fnPlaceRefusesCutRecordAndRetriesRow.pinnedBy) = true := by kernel_rfl
theorem cell31 : (Rows.fnPlaceRefusesCutRecordAndRetriesRow.veiled == (Try.f7.params.toList ++ Rows.fnPlaceRefusesCutRecordAndRetriesSpec.plain.varTypes Try.prog ++ Try.f7.resultTypes.toList).any (Try.prog.veiledRec ·)) = true := by kernel_rfl
theorem cell32 : Rows.fnPlaceRefusesCutRecordAndRetriesRow.veiledFits Try.prog Try.f7.params.toList (Try.f7.params.toList ++ Rows.fnPlaceRefusesCutRecordAndRetriesSpec.plain.varTypes Try.prog ++ Try.f7.resultTypes.toList) = true := by kernel_rfl
theorem closed : joinedFacts Try.prog 7 Try.f7 Rows.fnPlaceRefusesCutRecordAndRetriesSpec Rows.fnPlaceRefusesCutRecordAndRetriesRow = true :=
  both (both (both (both (both (both (both (both (both (both (both (both (both (both (both (both (both (both (both (both (both (both (both (both (both (both (both (both (both (both (both cell1 fact2) fact3) cell4) cell5) cell6) fact7) cell8) fact9) cell10) cell11) cell12) cell13) cell14) cell15) cell16) cell17) cell18) cell19) cell20) cell21) cell22) fact23) cell24) fact25) fact26) fact27) fact28) cell29) cell30) cell31) cell32


theorem over : Rows.fnPlaceRefusesCutRecordAndRetriesRow.holds Try.pinned (OpenSpec.ofChange Rows.fnPlaceRefusesCutRecordAndRetriesSpec) :=
  OpenClaim.holds_of_wide 7 Try.f7 rfl rfl rfl rfl rfl rfl rfl ⟨rfl, rfl, rfl, rfl, rfl⟩ rfl rfl rfl rfl rfl (by kernel_rfl) Try.func7 closed
    (of_decide_eq_true (by kernel_rfl)) (by unfold Func.isWrapper; first | (rw [if_pos (by decide +kernel)]; kernel_rfl) | (rw [if_neg (by decide +kernel)]; exact ⟨rfl, rfl⟩))
    (fun os started H enc _ => lifted os started H enc)

/-- THE STATEMENT -/
theorem proved : Rows.FnPlaceRefusesCutRecordAndRetriesSaid :=
  over
#print axioms proved
end Go.Proofs.Qxb6000182a.fnPlaceRefusesCutRecordAndRetries
