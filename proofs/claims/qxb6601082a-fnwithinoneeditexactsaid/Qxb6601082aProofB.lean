import Derived.Test.Qxb6601082aRows
import Derived.Test.Qxb6601082aLawB
import Derived.Test.Qxb6601082aHead
import Derived.WalkKit
import Derived.ProofKit
import Derived.OpenShut
import Derived.ShutString
import Derived.ChangeOld
import Derived.Below
namespace Go.Proofs.Qxb6601082a.fnWithinOneEditExact
open Go.ChangeShapes Go.WideShapes Go.ChangeAt Go.RowKit
open Go.ChangeMaps (open_string shut_string)
set_option linter.unusedVariables false

theorem own : ownKnob Try.prog.godebug = none := by kernel_rfl
theorem laidOut : laidOutB Try.prog = true := by kernel_rfl

theorem walk (a0 : Option Addr) (len0 cap0 : Nat) (z0 : List Int) (a1 : Option Addr) (len1 cap1 : Nat) (z1 : List Int) (w : World) (w0 : IsRow .i32 w a0 len0 cap0 z0) (w1 : IsRow .i32 w a1 len1 cap1 z1) :
    Calls Try.prog 8 #[.slice a0 len0 cap0, .slice a1 len1 cap1] w fun e w' => e = .returned (.bool true) ∧ Below w.heap.size w w' := exact_walk a0 len0 cap0 z0 a1 len1 cap1 z1 w w0 w1

set_option maxRecDepth 100000 in
theorem lifted (os : Os) (started : os.Started) (H : Type) (enc : TypeId × Value → H) :
    ReturnsInHanded {} Try.checked os 8 .any (Rows.fnWithinOneEditExactSpec.pre6 enc Try.prog Try.f8 Rows.fnWithinOneEditExactRow.domain false) (Rows.fnWithinOneEditExactSpec.post enc Try.prog Try.f8 false true false false) := by
  refine returnsInHanded_of_change (C := Try.checked) own started (by kernel_rfl) Try.func8
    (ChangeSpec.witness6 (enc := enc) (C := Try.checked) false ⟨#[], #[.slice none 0 0, .slice none 0 0], []⟩ 8 (by kernel_rfl) (by kernel_rfl) (by kernel_rfl) (by kernel_rfl)) ?_
  intro W base args ds gs before hval0 hW hcnd _
  have hval : ∀ (j : Nat) t v, Try.f8.params[j]? = some t → args[j]? = some v → Value.okWide Try.prog W .any base t v := hval0
  have hW' := hW
  obtain ⟨p, q, hA0, hV, rfl, hfz, hnd⟩ := hW
  have hA : DataW.TrodAll enc Try.prog W 0 (fun _ => true) true Try.f8.params.toList args.toList ds p := hA0
  rw [Try.params8] at hA hval
  obtain ⟨v0, vs0, d0, ds0, p0, q0, hargs, rfl, rfl, h0, r0⟩ := trodAll_cons hA
  obtain ⟨v1, vs1, d1, ds1, p1, q1, rfl, rfl, rfl, h1, r1⟩ := trodAll_cons r0
  obtain ⟨rfl, rfl, rfl⟩ := trodAll_nil r1
  obtain rfl : args = #[v0, v1] := by cases args; simp_all
  obtain ⟨rfl, rfl⟩ := trodVars_none hV
  obtain ⟨a0, len0, cap0, rfl⟩ := okWide_slice Try.underlying34 (hval 0 34 v0 rfl rfl)
  have k0 := h0
  have lt0 : ∀ x ∈ p0, x.block < W.heap.size := by obtain ⟨m, hm⟩ := k0; exact DataW.trod_lt m _ _ _ hm
  obtain ⟨z0, w0⟩ : ∃ zs, IsRow .i32 W a0 len0 cap0 zs := by
    obtain ⟨fuel, hf⟩ := h0
    rcases open_ints Try.underlying34 Try.underlying21 (by kernel_rfl) hf with ⟨hcs, _⟩ | ⟨x, l, c, zs, hcs, _, hl, hm, hz, _, hcell, hwz⟩
    · simp [Value.cells] at hcs
      obtain ⟨rfl, rfl, rfl⟩ := hcs
      exact ⟨[], .inl ⟨rfl, rfl, rfl, rfl⟩⟩
    · simp [Value.cells] at hcs
      obtain ⟨rfl, rfl, rfl⟩ := hcs
      exact ⟨zs, .inr ⟨_, rfl, hl, hm, by simpa using hz, hcell, hwz⟩⟩
  obtain ⟨a1, len1, cap1, rfl⟩ := okWide_slice Try.underlying34 (hval 1 34 v1 rfl rfl)
  have k1 := h1
  have lt1 : ∀ x ∈ p1, x.block < W.heap.size := by obtain ⟨m, hm⟩ := k1; exact DataW.trod_lt m _ _ _ hm
  obtain ⟨z1, w1⟩ : ∃ zs, IsRow .i32 W a1 len1 cap1 zs := by
    obtain ⟨fuel, hf⟩ := h1
    rcases open_ints Try.underlying34 Try.underlying21 (by kernel_rfl) hf with ⟨hcs, _⟩ | ⟨x, l, c, zs, hcs, _, hl, hm, hz, _, hcell, hwz⟩
    · simp [Value.cells] at hcs
      obtain ⟨rfl, rfl, rfl⟩ := hcs
      exact ⟨[], .inl ⟨rfl, rfl, rfl, rfl⟩⟩
    · simp [Value.cells] at hcs
      obtain ⟨rfl, rfl, rfl⟩ := hcs
      exact ⟨zs, .inr ⟨_, rfl, hl, hm, by simpa using hz, hcell, hwz⟩⟩
  clear hA0 hval0
  refine (walk a0 len0 cap0 z0 a1 len1 cap1 z1 W w0 w1).mono fun e W' ⟨he, bel⟩ => ?_
  subst he
  exact ⟨_, rfl, _, _, _, [], _, [], hW', trodAll_mk1 (shut_bool Try.underlying4 _), (trodAll_cons_mk (Below.trod laidOut (by kernel_rfl) (of_decide_eq_true (by kernel_rfl)) k0 bel lt0) (trodAll_cons_mk (Below.trod laidOut (by kernel_rfl) (of_decide_eq_true (by kernel_rfl)) k1 bel lt1) trodAll_mk0)), rfl, bel.frame _, fun h => by cases h⟩

theorem c1 : (Rows.fnWithinOneEditExactRow.wf (OpenSpec.ofChange Rows.fnWithinOneEditExactSpec)) = true := by kernel_rfl
theorem c2 : (laidOutB Try.pinned.checked.prog) = true := by kernel_rfl
theorem c3 : (mapsRowed Try.pinned.checked.prog) = true := by kernel_rfl
theorem c4 : (Try.f8.params.all (Try.pinned.checked.prog.readableRec ·)) = true := by kernel_rfl
theorem c5 : (namedTie Try.pinned.checked.prog Rows.fnWithinOneEditExactRow.named Rows.fnWithinOneEditExactSpec.vars) = true := by kernel_rfl
theorem c6 : ((Rows.fnWithinOneEditExactRow.stops == [])) = true := by kernel_rfl
theorem c7 : ((Try.pinned.checked.prog.stops == [])) = true := by kernel_rfl
theorem c8 : ((Rows.fnWithinOneEditExactRow.knobs == [])) = true := by kernel_rfl
theorem c9 : ((Try.pinned.checked.prog.stopKnobs == [])) = true := by kernel_rfl
theorem c10 : ((Rows.fnWithinOneEditExactRow.inPlace == Try.pinned.checked.prog.inPlace 8)) = true := by kernel_rfl
theorem c11 : ((Rows.fnWithinOneEditExactRow.unfollowed == Try.pinned.checked.prog.unfollowed 8)) = true := by kernel_rfl
theorem c12 : ((Rows.fnWithinOneEditExactRow.recurses == Try.pinned.checked.prog.recurses 8)) = true := by kernel_rfl
theorem c13 : ((Rows.fnWithinOneEditExactRow.named == Try.pinned.checked.prog.varsNamed 8)) = true := by kernel_rfl
theorem c14 : ((Rows.fnWithinOneEditExactRow.maps == (Try.f8.params.toList ++ Rows.fnWithinOneEditExactSpec.plain.varTypes Try.pinned.checked.prog).any (Try.pinned.checked.prog.mapsRec ·))) = true := by kernel_rfl
theorem c15 : ((Rows.fnWithinOneEditExactRow.ifaces == (Try.f8.params.toList ++ Rows.fnWithinOneEditExactSpec.plain.varTypes Try.pinned.checked.prog).any (Try.pinned.checked.prog.ifacesRec ·))) = true := by kernel_rfl
theorem c16 : ((Rows.fnWithinOneEditExactRow.mapsOut == Try.pinned.checked.prog.mapsAmong Try.f8.resultTypes.toList)) = true := by kernel_rfl
theorem c17 : ((Rows.fnWithinOneEditExactRow.loops == (Try.f8.params.toList ++ Rows.fnWithinOneEditExactSpec.plain.varTypes Try.pinned.checked.prog).any (Try.pinned.checked.prog.loopsFrom ·))) = true := by kernel_rfl
theorem c18 : ((Rows.fnWithinOneEditExactRow.wideKeys == (Try.f8.params.toList ++ Rows.fnWithinOneEditExactSpec.plain.varTypes Try.pinned.checked.prog ++ Try.f8.resultTypes.toList).any (Try.pinned.checked.prog.wideKeysFrom ·))) = true := by kernel_rfl
theorem c19 : (Rows.fnWithinOneEditExactSpec.vars.all (Try.pinned.checked.prog.varReadable ·)) = true := by kernel_rfl
theorem c20 : (Try.f8.resultTypes.all (fun t => Try.pinned.checked.prog.readableRec t && decide (t < Try.pinned.checked.prog.types.size))) = true := by kernel_rfl
theorem c21 : ((Rows.fnWithinOneEditExactRow.ifacesOut == Try.f8.resultTypes.toList.any (Try.pinned.checked.prog.ifacesRec ·))) = true := by kernel_rfl
theorem c22 : ((Rows.fnWithinOneEditExactRow.loopsOut == Try.f8.resultTypes.toList.any (Try.pinned.checked.prog.loopsFrom ·))) = true := by kernel_rfl
theorem c23 : ((Rows.fnWithinOneEditExactRow.plainKeys == Try.pinned.checked.prog.plainKeys)) = true := by kernel_rfl
theorem c24 : (Rows.fnWithinOneEditExactRow.shortTexts.isNone) = true := by kernel_rfl
theorem c25 : (Try.pinned.checked.prog.stopsHeard) = true := by kernel_rfl
theorem c26 : (Try.pinned.checked.prog.mayEnter) = true := mayEnter_eq
theorem c27 : ((Rows.fnWithinOneEditExactRow.lifted == Try.pinned.checked.prog.liftsFinal)) = true := by rw [liftsFinal_eq]; rfl
theorem c28 : ((Try.pinned.checked.prog.make == some Rows.fnWithinOneEditExactRow.make)) = true := by rw [make_eq]; rfl
theorem c29 : ((Rows.fnWithinOneEditExactRow.kinds == (if Rows.fnWithinOneEditExactRow.domain.isEmpty then [] else Try.f8.params.toList.map fun t => match Try.pinned.checked.prog.underlying t with | some (.int k) => some k | _ => none))) = true := by kernel_rfl
theorem c30 : ((Rows.fnWithinOneEditExactRow.pinned == Rows.fnWithinOneEditExactRow.pinnedBy)) = true := by kernel_rfl
theorem c31 : ((Rows.fnWithinOneEditExactRow.veiled == (Try.f8.params.toList ++ Rows.fnWithinOneEditExactSpec.plain.varTypes Try.pinned.checked.prog ++ Try.f8.resultTypes.toList).any (Try.pinned.checked.prog.veiledRec ·))) = true := by kernel_rfl
theorem c32 : (Rows.fnWithinOneEditExactRow.veiledFits Try.pinned.checked.prog Try.f8.params.toList (Try.f8.params.toList ++ Rows.fnWithinOneEditExactSpec.plain.varTypes Try.pinned.checked.prog ++ Try.f8.resultTypes.toList)) = true := by kernel_rfl
theorem closed : joinedFacts Try.pinned.checked.prog 8 Try.f8 Rows.fnWithinOneEditExactSpec Rows.fnWithinOneEditExactRow = true := and_mk (and_mk (and_mk (and_mk (and_mk (and_mk (and_mk (and_mk (and_mk (and_mk (and_mk (and_mk (and_mk (and_mk (and_mk (and_mk (and_mk (and_mk (and_mk (and_mk (and_mk (and_mk (and_mk (and_mk (and_mk (and_mk (and_mk (and_mk (and_mk (and_mk (and_mk c1 c2) c3) c4) c5) c6) c7) c8) c9) c10) c11) c12) c13) c14) c15) c16) c17) c18) c19) c20) c21) c22) c23) c24) c25) c26) c27) c28) c29) c30) c31) c32

theorem over : Rows.fnWithinOneEditExactRow.holds Try.pinned (OpenSpec.ofChange Rows.fnWithinOneEditExactSpec) :=
  OpenClaim.holds_of_wide 8 Try.f8 rfl rfl rfl rfl rfl rfl rfl ⟨rfl, rfl, rfl, rfl, rfl⟩ rfl rfl rfl rfl rfl (by kernel_rfl) Try.func8 closed
    (of_decide_eq_true (by kernel_rfl)) (by unfold Func.isWrapper; first | (rw [if_pos (by decide +kernel)]; kernel_rfl) | (rw [if_neg (by decide +kernel)]; exact ⟨rfl, rfl⟩))
    (fun os started H enc _ => lifted os started H enc)

theorem proved : Rows.FnWithinOneEditExactSaid := over
end Go.Proofs.Qxb6601082a.fnWithinOneEditExact
