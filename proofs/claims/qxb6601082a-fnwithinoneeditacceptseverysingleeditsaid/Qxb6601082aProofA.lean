import Derived.Test.Qxb6601082aRows
import Derived.Test.Qxb6601082aLawA
import Derived.Test.Qxb6601082aHead
import Derived.WalkKit
import Derived.ProofKit
import Derived.OpenShut
import Derived.ShutString
import Derived.ChangeOld
import Derived.Below
namespace Go.Proofs.Qxb6601082a.fnWithinOneEditAcceptsEverySingleEdit
open Go.ChangeShapes Go.WideShapes Go.ChangeAt Go.RowKit
open Go.ChangeMaps (open_string shut_string)
set_option linter.unusedVariables false

theorem own : ownKnob Try.prog.godebug = none := by kernel_rfl
theorem laidOut : laidOutB Try.prog = true := by kernel_rfl

theorem walk (a0 : Option Addr) (len0 cap0 : Nat) (z0 : List Int) (a1 : Int) (a2 : Int) (w : World) (w0 : IsRow .i32 w a0 len0 cap0 z0) (w1 : (Lit.int .i64 a1).wf = true) (w2 : (Lit.int .i32 a2).wf = true) :
    Calls Try.prog 10 #[.slice a0 len0 cap0, .int .i64 a1, .int .i32 a2] w fun e w' => e = .returned (.bool true) ∧ Below w.heap.size w w' := single_walk a0 len0 cap0 z0 a1 a2 w w0

set_option maxRecDepth 100000 in
theorem lifted (os : Os) (started : os.Started) (H : Type) (enc : TypeId × Value → H) :
    ReturnsInHanded {} Try.checked os 10 .any (Rows.fnWithinOneEditAcceptsEverySingleEditSpec.pre6 enc Try.prog Try.f10 Rows.fnWithinOneEditAcceptsEverySingleEditRow.domain false) (Rows.fnWithinOneEditAcceptsEverySingleEditSpec.post enc Try.prog Try.f10 false true false false) := by
  refine returnsInHanded_of_change (C := Try.checked) own started (by kernel_rfl) Try.func10
    (ChangeSpec.witness6 (enc := enc) (C := Try.checked) false ⟨#[], #[.slice none 0 0, .int .i64 0, .int .i32 0], []⟩ 8 (by kernel_rfl) (by kernel_rfl) (by kernel_rfl) (by kernel_rfl)) ?_
  intro W base args ds gs before hval0 hW hcnd _
  have hval : ∀ (j : Nat) t v, Try.f10.params[j]? = some t → args[j]? = some v → Value.okWide Try.prog W .any base t v := hval0
  have hW' := hW
  obtain ⟨p, q, hA0, hV, rfl, hfz, hnd⟩ := hW
  have hA : DataW.TrodAll enc Try.prog W 0 (fun _ => true) true Try.f10.params.toList args.toList ds p := hA0
  rw [Try.params10] at hA hval
  obtain ⟨v0, vs0, d0, ds0, p0, q0, hargs, rfl, rfl, h0, r0⟩ := trodAll_cons hA
  obtain ⟨v1, vs1, d1, ds1, p1, q1, rfl, rfl, rfl, h1, r1⟩ := trodAll_cons r0
  obtain ⟨v2, vs2, d2, ds2, p2, q2, rfl, rfl, rfl, h2, r2⟩ := trodAll_cons r1
  obtain ⟨rfl, rfl, rfl⟩ := trodAll_nil r2
  obtain rfl : args = #[v0, v1, v2] := by cases args; simp_all
  obtain ⟨rfl, rfl⟩ := trodVars_none hV
  obtain ⟨a0, len0, cap0, rfl⟩ := okWide_slice Try.underlying34 (hval 0 34 v0 rfl rfl)
  have k0 := h0
  have lt0 : ∀ x ∈ p0, x.block < W.heap.size := by obtain ⟨m, hm⟩ := k0; exact DataW.trod_lt m _ _ _ hm
  obtain ⟨z0, w0⟩ : ∃ zs, IsRow .i32 W a0 len0 cap0 zs := by
    obtain ⟨fuel, hf⟩ := h0
    rcases open_ints Try.underlying34 Try.underlying21 (by kernel_rfl) hf with ⟨hcs, _⟩ | ⟨x, l, c, zs, hcs, _, hl, hm, hz, _, hcell, hwz⟩
    · simp [Value.cells] at hcs
      obtain ⟨rfl, rfl, rfl⟩ := hcs
      exact ⟨[], .inl ⟨rfl, rfl, rfl, rfl⟩⟩
    · simp [Value.cells] at hcs
      obtain ⟨rfl, rfl, rfl⟩ := hcs
      exact ⟨zs, .inr ⟨_, rfl, hl, hm, by simpa using hz, hcell, hwz⟩⟩
  obtain ⟨a1, rfl, rfl, rfl, w1⟩ := open_int Try.underlying3 (hval 1 3 v1 rfl rfl) h1
  obtain ⟨a2, rfl, rfl, rfl, w2⟩ := open_int Try.underlying21 (hval 2 21 v2 rfl rfl) h2
  clear hA0 hval0
  refine (walk a0 len0 cap0 z0 a1 a2 W w0 w1 w2).mono fun e W' ⟨he, bel⟩ => ?_
  subst he
  exact ⟨_, rfl, _, _, _, [], _, [], hW', trodAll_mk1 (shut_bool Try.underlying4 _), (trodAll_cons_mk (Below.trod laidOut (by kernel_rfl) (of_decide_eq_true (by kernel_rfl)) k0 bel lt0) (trodAll_cons_mk (shut_int Try.underlying3 w1) (trodAll_cons_mk (shut_int Try.underlying21 w2) trodAll_mk0))), rfl, bel.frame _, fun h => by cases h⟩

theorem c1 : (Rows.fnWithinOneEditAcceptsEverySingleEditRow.wf (OpenSpec.ofChange Rows.fnWithinOneEditAcceptsEverySingleEditSpec)) = true := by kernel_rfl
theorem c2 : (laidOutB Try.pinned.checked.prog) = true := by kernel_rfl
theorem c3 : (mapsRowed Try.pinned.checked.prog) = true := by kernel_rfl
theorem c4 : (Try.f10.params.all (Try.pinned.checked.prog.readableRec ·)) = true := by kernel_rfl
theorem c5 : (namedTie Try.pinned.checked.prog Rows.fnWithinOneEditAcceptsEverySingleEditRow.named Rows.fnWithinOneEditAcceptsEverySingleEditSpec.vars) = true := by kernel_rfl
theorem c6 : ((Rows.fnWithinOneEditAcceptsEverySingleEditRow.stops == [])) = true := by kernel_rfl
theorem c7 : ((Try.pinned.checked.prog.stops == [])) = true := by kernel_rfl
theorem c8 : ((Rows.fnWithinOneEditAcceptsEverySingleEditRow.knobs == [])) = true := by kernel_rfl
theorem c9 : ((Try.pinned.checked.prog.stopKnobs == [])) = true := by kernel_rfl
theorem c10 : ((Rows.fnWithinOneEditAcceptsEverySingleEditRow.inPlace == Try.pinned.checked.prog.inPlace 10)) = true := by kernel_rfl
theorem c11 : ((Rows.fnWithinOneEditAcceptsEverySingleEditRow.unfollowed == Try.pinned.checked.prog.unfollowed 10)) = true := by kernel_rfl
theorem c12 : ((Rows.fnWithinOneEditAcceptsEverySingleEditRow.recurses == Try.pinned.checked.prog.recurses 10)) = true := by kernel_rfl
theorem c13 : ((Rows.fnWithinOneEditAcceptsEverySingleEditRow.named == Try.pinned.checked.prog.varsNamed 10)) = true := by kernel_rfl
theorem c14 : ((Rows.fnWithinOneEditAcceptsEverySingleEditRow.maps == (Try.f10.params.toList ++ Rows.fnWithinOneEditAcceptsEverySingleEditSpec.plain.varTypes Try.pinned.checked.prog).any (Try.pinned.checked.prog.mapsRec ·))) = true := by kernel_rfl
theorem c15 : ((Rows.fnWithinOneEditAcceptsEverySingleEditRow.ifaces == (Try.f10.params.toList ++ Rows.fnWithinOneEditAcceptsEverySingleEditSpec.plain.varTypes Try.pinned.checked.prog).any (Try.pinned.checked.prog.ifacesRec ·))) = true := by kernel_rfl
theorem c16 : ((Rows.fnWithinOneEditAcceptsEverySingleEditRow.mapsOut == Try.pinned.checked.prog.mapsAmong Try.f10.resultTypes.toList)) = true := by kernel_rfl
theorem c17 : ((Rows.fnWithinOneEditAcceptsEverySingleEditRow.loops == (Try.f10.params.toList ++ Rows.fnWithinOneEditAcceptsEverySingleEditSpec.plain.varTypes Try.pinned.checked.prog).any (Try.pinned.checked.prog.loopsFrom ·))) = true := by kernel_rfl
theorem c18 : ((Rows.fnWithinOneEditAcceptsEverySingleEditRow.wideKeys == (Try.f10.params.toList ++ Rows.fnWithinOneEditAcceptsEverySingleEditSpec.plain.varTypes Try.pinned.checked.prog ++ Try.f10.resultTypes.toList).any (Try.pinned.checked.prog.wideKeysFrom ·))) = true := by kernel_rfl
theorem c19 : (Rows.fnWithinOneEditAcceptsEverySingleEditSpec.vars.all (Try.pinned.checked.prog.varReadable ·)) = true := by kernel_rfl
theorem c20 : (Try.f10.resultTypes.all (fun t => Try.pinned.checked.prog.readableRec t && decide (t < Try.pinned.checked.prog.types.size))) = true := by kernel_rfl
theorem c21 : ((Rows.fnWithinOneEditAcceptsEverySingleEditRow.ifacesOut == Try.f10.resultTypes.toList.any (Try.pinned.checked.prog.ifacesRec ·))) = true := by kernel_rfl
theorem c22 : ((Rows.fnWithinOneEditAcceptsEverySingleEditRow.loopsOut == Try.f10.resultTypes.toList.any (Try.pinned.checked.prog.loopsFrom ·))) = true := by kernel_rfl
theorem c23 : ((Rows.fnWithinOneEditAcceptsEverySingleEditRow.plainKeys == Try.pinned.checked.prog.plainKeys)) = true := by kernel_rfl
theorem c24 : (Rows.fnWithinOneEditAcceptsEverySingleEditRow.shortTexts.isNone) = true := by kernel_rfl
theorem c25 : (Try.pinned.checked.prog.stopsHeard) = true := by kernel_rfl
theorem c26 : (Try.pinned.checked.prog.mayEnter) = true := mayEnter_eq
theorem c27 : ((Rows.fnWithinOneEditAcceptsEverySingleEditRow.lifted == Try.pinned.checked.prog.liftsFinal)) = true := by rw [liftsFinal_eq]; rfl
theorem c28 : ((Try.pinned.checked.prog.make == some Rows.fnWithinOneEditAcceptsEverySingleEditRow.make)) = true := by rw [make_eq]; rfl
theorem c29 : ((Rows.fnWithinOneEditAcceptsEverySingleEditRow.kinds == (if Rows.fnWithinOneEditAcceptsEverySingleEditRow.domain.isEmpty then [] else Try.f10.params.toList.map fun t => match Try.pinned.checked.prog.underlying t with | some (.int k) => some k | _ => none))) = true := by kernel_rfl
theorem c30 : ((Rows.fnWithinOneEditAcceptsEverySingleEditRow.pinned == Rows.fnWithinOneEditAcceptsEverySingleEditRow.pinnedBy)) = true := by kernel_rfl
theorem c31 : ((Rows.fnWithinOneEditAcceptsEverySingleEditRow.veiled == (Try.f10.params.toList ++ Rows.fnWithinOneEditAcceptsEverySingleEditSpec.plain.varTypes Try.pinned.checked.prog ++ Try.f10.resultTypes.toList).any (Try.pinned.checked.prog.veiledRec ·))) = true := by kernel_rfl
theorem c32 : (Rows.fnWithinOneEditAcceptsEverySingleEditRow.veiledFits Try.pinned.checked.prog Try.f10.params.toList (Try.f10.params.toList ++ Rows.fnWithinOneEditAcceptsEverySingleEditSpec.plain.varTypes Try.pinned.checked.prog ++ Try.f10.resultTypes.toList)) = true := by kernel_rfl
theorem closed : joinedFacts Try.pinned.checked.prog 10 Try.f10 Rows.fnWithinOneEditAcceptsEverySingleEditSpec Rows.fnWithinOneEditAcceptsEverySingleEditRow = true := and_mk (and_mk (and_mk (and_mk (and_mk (and_mk (and_mk (and_mk (and_mk (and_mk (and_mk (and_mk (and_mk (and_mk (and_mk (and_mk (and_mk (and_mk (and_mk (and_mk (and_mk (and_mk (and_mk (and_mk (and_mk (and_mk (and_mk (and_mk (and_mk (and_mk (and_mk c1 c2) c3) c4) c5) c6) c7) c8) c9) c10) c11) c12) c13) c14) c15) c16) c17) c18) c19) c20) c21) c22) c23) c24) c25) c26) c27) c28) c29) c30) c31) c32

theorem over : Rows.fnWithinOneEditAcceptsEverySingleEditRow.holds Try.pinned (OpenSpec.ofChange Rows.fnWithinOneEditAcceptsEverySingleEditSpec) :=
  OpenClaim.holds_of_wide 10 Try.f10 rfl rfl rfl rfl rfl rfl rfl ⟨rfl, rfl, rfl, rfl, rfl⟩ rfl rfl rfl rfl rfl (by kernel_rfl) Try.func10 closed
    (of_decide_eq_true (by kernel_rfl)) (by unfold Func.isWrapper; first | (rw [if_pos (by decide +kernel)]; kernel_rfl) | (rw [if_neg (by decide +kernel)]; exact ⟨rfl, rfl⟩))
    (fun os started H enc _ => lifted os started H enc)

theorem proved : Rows.FnWithinOneEditAcceptsEverySingleEditSaid := over
end Go.Proofs.Qxb6601082a.fnWithinOneEditAcceptsEverySingleEdit
