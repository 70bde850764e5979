import Derived.Test.Qxb6600445aRows
import Derived.Test.Qxb6600445aLaw
import Derived.Test.Qxb6600445aOpen
import Derived.Test.Qxb6600445aHead
import Derived.WalkKit
import Derived.ProofKit
import Derived.OpenShut
import Derived.ChangeOld
import Derived.Below
namespace Go.Proofs.Qxb6600445a.fnPrecedenceSwapOfNonConflictingNeighbours
open Go.ChangeShapes Go.WideShapes Go.ChangeAt Go.RowKit
set_option linter.unusedVariables false

theorem own : ownKnob Try.prog.godebug = none := by kernel_rfl
theorem laidOut : laidOutB Try.prog = true := by kernel_rfl

set_option maxRecDepth 100000 in
theorem lifted (os : Os) (started : os.Started) (H : Type) (enc : TypeId × Value → H) :
    ReturnsInHanded {} Try.checked os 7 .any (Rows.fnPrecedenceSwapOfNonConflictingNeighboursSpec.pre6 enc Try.prog Try.f7 Rows.fnPrecedenceSwapOfNonConflictingNeighboursRow.domain false) (Rows.fnPrecedenceSwapOfNonConflictingNeighboursSpec.post enc Try.prog Try.f7 false true false false) := by
  refine returnsInHanded_of_change (C := Try.checked) own started (by kernel_rfl) Try.func7
    (ChangeSpec.witness6 (enc := enc) (C := Try.checked) false ⟨#[], #[.slice none 0 0, .slice none 0 0, .slice none 0 0, .slice none 0 0, .int .i64 0], []⟩ 8 (by kernel_rfl) (by kernel_rfl) (by kernel_rfl) (by kernel_rfl)) ?_
  intro W base args ds gs before hval0 hW hcnd _
  have hval : ∀ (j : Nat) t v, Try.f7.params[j]? = some t → args[j]? = some v → Value.okWide Try.prog W .any base t v := hval0
  have hW' := hW
  obtain ⟨p, q, hA0, hV, rfl, hfz, hnd⟩ := hW
  have hA : DataW.TrodAll enc Try.prog W 0 (fun _ => true) true Try.f7.params.toList args.toList ds p := hA0
  rw [Try.params7] at hA hval
  obtain ⟨v0, vs0, d0, ds0, p0, q0, hargs, rfl, rfl, h0, r0⟩ := trodAll_cons hA
  obtain ⟨v1, vs1, d1, ds1, p1, q1, rfl, rfl, rfl, h1, r1⟩ := trodAll_cons r0
  obtain ⟨v2, vs2, d2, ds2, p2, q2, rfl, rfl, rfl, h2, r2⟩ := trodAll_cons r1
  obtain ⟨v3, vs3, d3, ds3, p3, q3, rfl, rfl, rfl, h3, r3⟩ := trodAll_cons r2
  obtain ⟨v4, vs4, d4, ds4, p4, q4, rfl, rfl, rfl, h4, r4⟩ := trodAll_cons r3
  obtain ⟨rfl, rfl, rfl⟩ := trodAll_nil r4
  obtain rfl : args = #[v0, v1, v2, v3, v4] := by cases args; simp_all
  obtain ⟨rfl, rfl⟩ := trodVars_none hV
  obtain ⟨a0, n0, c0, rfl⟩ := okWide_slice Try.underlying22 (hval 0 22 v0 rfl rfl)
  obtain ⟨a1, n1, c1, rfl⟩ := okWide_slice Try.underlying33 (hval 1 33 v1 rfl rfl)
  obtain ⟨a2, n2, c2, rfl⟩ := okWide_slice Try.underlying34 (hval 2 34 v2 rfl rfl)
  obtain ⟨a3, n3, c3, rfl⟩ := okWide_slice Try.underlying22 (hval 3 22 v3 rfl rfl)
  obtain ⟨k0, rfl, rfl, rfl, w4⟩ := open_int Try.underlying3 (hval 4 3 v4 rfl rfl) h4
  have lt0 : ∀ x ∈ p0, x.block < W.heap.size := by obtain ⟨m, hm⟩ := h0; exact DataW.trod_lt m _ _ _ hm
  have lt1 : ∀ x ∈ p1, x.block < W.heap.size := by obtain ⟨m, hm⟩ := h1; exact DataW.trod_lt m _ _ _ hm
  have lt2 : ∀ x ∈ p2, x.block < W.heap.size := by obtain ⟨m, hm⟩ := h2; exact DataW.trod_lt m _ _ _ hm
  have lt3 : ∀ x ∈ p3, x.block < W.heap.size := by obtain ⟨m, hm⟩ := h3; exact DataW.trod_lt m _ _ _ hm
  obtain ⟨X, hx⟩ := open22 h0
  obtain ⟨T, ht, hT⟩ := open33 h1
  obtain ⟨Wr, hw⟩ := open34 h2
  obtain ⟨S, hs⟩ := open22 h3
  clear hA0 hval0
  refine (law_any a0 a1 a2 a3 n0 n1 n2 n3 c0 c1 c2 c3 k0 X T Wr S W hx ht hw hs hT).mono fun e W' ⟨he, bel⟩ => ?_
  subst he
  exact ⟨_, rfl, _, _, _, [], _, [], hW', trodAll_mk1 (shut_bool Try.underlying4 _), (trodAll_cons_mk (Below.trod laidOut (by kernel_rfl) (of_decide_eq_true (by kernel_rfl)) h0 bel lt0) (trodAll_cons_mk (Below.trod laidOut (by kernel_rfl) (of_decide_eq_true (by kernel_rfl)) h1 bel lt1) (trodAll_cons_mk (Below.trod laidOut (by kernel_rfl) (of_decide_eq_true (by kernel_rfl)) h2 bel lt2) (trodAll_cons_mk (Below.trod laidOut (by kernel_rfl) (of_decide_eq_true (by kernel_rfl)) h3 bel lt3) (trodAll_cons_mk (shut_int Try.underlying3 w4) trodAll_mk0))))), rfl, bel.frame _, fun h => by cases h⟩

theorem c1 : (Rows.fnPrecedenceSwapOfNonConflictingNeighboursRow.wf (OpenSpec.ofChange Rows.fnPrecedenceSwapOfNonConflictingNeighboursSpec)) = true := by kernel_rfl
theorem c2 : (laidOutB Try.pinned.checked.prog) = true := by kernel_rfl
theorem c3 : (mapsRowed Try.pinned.checked.prog) = true := by kernel_rfl
theorem c4 : (Try.f7.params.all (Try.pinned.checked.prog.readableRec ·)) = true := by kernel_rfl
theorem c5 : (namedTie Try.pinned.checked.prog Rows.fnPrecedenceSwapOfNonConflictingNeighboursRow.named Rows.fnPrecedenceSwapOfNonConflictingNeighboursSpec.vars) = true := by kernel_rfl
theorem c6 : ((Rows.fnPrecedenceSwapOfNonConflictingNeighboursRow.stops == [])) = true := by kernel_rfl
theorem c7 : ((Try.pinned.checked.prog.stops == [])) = true := by kernel_rfl
theorem c8 : ((Rows.fnPrecedenceSwapOfNonConflictingNeighboursRow.knobs == [])) = true := by kernel_rfl
theorem c9 : ((Try.pinned.checked.prog.stopKnobs == [])) = true := by kernel_rfl
theorem c10 : ((Rows.fnPrecedenceSwapOfNonConflictingNeighboursRow.inPlace == Try.pinned.checked.prog.inPlace 7)) = true := by kernel_rfl
theorem c11 : ((Rows.fnPrecedenceSwapOfNonConflictingNeighboursRow.unfollowed == Try.pinned.checked.prog.unfollowed 7)) = true := by kernel_rfl
theorem c12 : ((Rows.fnPrecedenceSwapOfNonConflictingNeighboursRow.recurses == Try.pinned.checked.prog.recurses 7)) = true := by kernel_rfl
theorem c13 : ((Rows.fnPrecedenceSwapOfNonConflictingNeighboursRow.named == Try.pinned.checked.prog.varsNamed 7)) = true := by kernel_rfl
theorem c14 : ((Rows.fnPrecedenceSwapOfNonConflictingNeighboursRow.maps == (Try.f7.params.toList ++ Rows.fnPrecedenceSwapOfNonConflictingNeighboursSpec.plain.varTypes Try.pinned.checked.prog).any (Try.pinned.checked.prog.mapsRec ·))) = true := by kernel_rfl
theorem c15 : ((Rows.fnPrecedenceSwapOfNonConflictingNeighboursRow.ifaces == (Try.f7.params.toList ++ Rows.fnPrecedenceSwapOfNonConflictingNeighboursSpec.plain.varTypes Try.pinned.checked.prog).any (Try.pinned.checked.prog.ifacesRec ·))) = true := by kernel_rfl
theorem c16 : ((Rows.fnPrecedenceSwapOfNonConflictingNeighboursRow.mapsOut == Try.pinned.checked.prog.mapsAmong Try.f7.resultTypes.toList)) = true := by kernel_rfl
theorem c17 : ((Rows.fnPrecedenceSwapOfNonConflictingNeighboursRow.loops == (Try.f7.params.toList ++ Rows.fnPrecedenceSwapOfNonConflictingNeighboursSpec.plain.varTypes Try.pinned.checked.prog).any (Try.pinned.checked.prog.loopsFrom ·))) = true := by kernel_rfl
theorem c18 : ((Rows.fnPrecedenceSwapOfNonConflictingNeighboursRow.wideKeys == (Try.f7.params.toList ++ Rows.fnPrecedenceSwapOfNonConflictingNeighboursSpec.plain.varTypes Try.pinned.checked.prog ++ Try.f7.resultTypes.toList).any (Try.pinned.checked.prog.wideKeysFrom ·))) = true := by kernel_rfl
theorem c19 : (Rows.fnPrecedenceSwapOfNonConflictingNeighboursSpec.vars.all (Try.pinned.checked.prog.varReadable ·)) = true := by kernel_rfl
theorem c20 : (Try.f7.resultTypes.all (fun t => Try.pinned.checked.prog.readableRec t && decide (t < Try.pinned.checked.prog.types.size))) = true := by kernel_rfl
theorem c21 : ((Rows.fnPrecedenceSwapOfNonConflictingNeighboursRow.ifacesOut == Try.f7.resultTypes.toList.any (Try.pinned.checked.prog.ifacesRec ·))) = true := by kernel_rfl
theorem c22 : ((Rows.fnPrecedenceSwapOfNonConflictingNeighboursRow.loopsOut == Try.f7.resultTypes.toList.any (Try.pinned.checked.prog.loopsFrom ·))) = true := by kernel_rfl
theorem c23 : ((Rows.fnPrecedenceSwapOfNonConflictingNeighboursRow.plainKeys == Try.pinned.checked.prog.plainKeys)) = true := by kernel_rfl
theorem c24 : (Rows.fnPrecedenceSwapOfNonConflictingNeighboursRow.shortTexts.isNone) = true := by kernel_rfl
theorem c25 : (Try.pinned.checked.prog.stopsHeard) = true := by kernel_rfl
theorem c26 : (Try.pinned.checked.prog.mayEnter) = true := mayEnter_eq
theorem c27 : ((Rows.fnPrecedenceSwapOfNonConflictingNeighboursRow.lifted == Try.pinned.checked.prog.liftsFinal)) = true := by rw [liftsFinal_eq]; rfl
theorem c28 : ((Try.pinned.checked.prog.make == some Rows.fnPrecedenceSwapOfNonConflictingNeighboursRow.make)) = true := by rw [make_eq]; rfl
theorem c29 : ((Rows.fnPrecedenceSwapOfNonConflictingNeighboursRow.kinds == (if Rows.fnPrecedenceSwapOfNonConflictingNeighboursRow.domain.isEmpty then [] else Try.f7.params.toList.map fun t => match Try.pinned.checked.prog.underlying t with | some (.int k) => some k | _ => none))) = true := by kernel_rfl
theorem c30 : ((Rows.fnPrecedenceSwapOfNonConflictingNeighboursRow.pinned == Rows.fnPrecedenceSwapOfNonConflictingNeighboursRow.pinnedBy)) = true := by kernel_rfl
theorem c31 : ((Rows.fnPrecedenceSwapOfNonConflictingNeighboursRow.veiled == (Try.f7.params.toList ++ Rows.fnPrecedenceSwapOfNonConflictingNeighboursSpec.plain.varTypes Try.pinned.checked.prog ++ Try.f7.resultTypes.toList).any (Try.pinned.checked.prog.veiledRec ·))) = true := by kernel_rfl
theorem c32 : (Rows.fnPrecedenceSwapOfNonConflictingNeighboursRow.veiledFits Try.pinned.checked.prog Try.f7.params.toList (Try.f7.params.toList ++ Rows.fnPrecedenceSwapOfNonConflictingNeighboursSpec.plain.varTypes Try.pinned.checked.prog ++ Try.f7.resultTypes.toList)) = true := by kernel_rfl
theorem closed : joinedFacts Try.pinned.checked.prog 7 Try.f7 Rows.fnPrecedenceSwapOfNonConflictingNeighboursSpec Rows.fnPrecedenceSwapOfNonConflictingNeighboursRow = true := and_mk (and_mk (and_mk (and_mk (and_mk (and_mk (and_mk (and_mk (and_mk (and_mk (and_mk (and_mk (and_mk (and_mk (and_mk (and_mk (and_mk (and_mk (and_mk (and_mk (and_mk (and_mk (and_mk (and_mk (and_mk (and_mk (and_mk (and_mk (and_mk (and_mk (and_mk c1 c2) c3) c4) c5) c6) c7) c8) c9) c10) c11) c12) c13) c14) c15) c16) c17) c18) c19) c20) c21) c22) c23) c24) c25) c26) c27) c28) c29) c30) c31) c32

theorem over : Rows.fnPrecedenceSwapOfNonConflictingNeighboursRow.holds Try.pinned (OpenSpec.ofChange Rows.fnPrecedenceSwapOfNonConflictingNeighboursSpec) :=
  OpenClaim.holds_of_wide 7 Try.f7 rfl rfl rfl rfl rfl rfl rfl ⟨rfl, rfl, rfl, rfl, rfl⟩ rfl rfl rfl rfl rfl (by kernel_rfl) Try.func7 closed
    (of_decide_eq_true (by kernel_rfl)) (by unfold Func.isWrapper; first | (rw [if_pos (by decide +kernel)]; kernel_rfl) | (rw [if_neg (by decide +kernel)]; exact ⟨rfl, rfl⟩))
    (fun os started H enc _ => lifted os started H enc)

theorem proved : Rows.FnPrecedenceSwapOfNonConflictingNeighboursSaid := over
end Go.Proofs.Qxb6600445a.fnPrecedenceSwapOfNonConflictingNeighbours
