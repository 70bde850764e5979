import Derived.Test.Qxb6003656aRows
import Derived.Test.Qxb6003656aLawA
import Derived.Test.Qxb6003656aLawB
import Derived.Test.Qxb6003656aOpen
import Derived.Test.Qxb6003656aHead
import Derived.WalkKit
import Derived.ProofKit
import Derived.OpenShut
import Derived.ShutString
import Derived.ChangeOld
import Derived.Below
namespace Go.Proofs.Qxb6003656a.fnCloneCallsDeepCopyAtAnyCut
open Go.ChangeShapes Go.WideShapes Go.ChangeAt Go.RowKit
open Go.ChangeMaps (open_string shut_string)
set_option linter.unusedVariables false

theorem own : ownKnob Try.prog.godebug = none := by kernel_rfl
theorem laidOut : laidOutB Try.prog = true := by kernel_rfl

theorem walk (a0 a1 a2 : Option Addr) (n0 c0 n1 c1 n2 c2 : Nat) (k0 : Int) (P : Nat → ByteArray) (A : Nat → Option Addr) (L C : Nat → Nat) (T : Nat → Int) (S : Nat → Nat → ByteArray) (w : World)
    (hp : SlV w a0 n0 (fun i => .string (P i))) (ha : SlV w a1 n1 (fun i => .slice (A i) (L i) (C i))) (hst : SlV w a2 n2 (fun i => .int .i64 (T i))) (hs : ∀ i, i < n1 → SlV w (A i) (L i) (fun j => .string (S i j)))
    (hnn : ∀ i, i < n1 → A i = none → L i = 0 ∧ C i = 0) :
    Calls Try.prog 4 #[.slice a0 n0 c0, .slice a1 n1 c1, .slice a2 n2 c2, .int .i64 k0] w fun e w' => e = .returned (.bool true) ∧ Below w.heap.size w w' := by
  by_cases h : n1 = n0 ∧ n2 = n0
  · obtain ⟨h1, h2⟩ := h
    subst h1 h2
    exact clone_eq a0 a1 a2 n2 c0 c1 c2 k0 P A L C T S w hp ha hst hs hnn
  · exact clone_ne a0 a1 a2 n0 c0 n1 c1 n2 c2 k0 P A L C S w hp ha hs h

set_option maxRecDepth 100000 in
theorem lifted (os : Os) (started : os.Started) (H : Type) (enc : TypeId × Value → H) :
    ReturnsInHanded {} Try.checked os 4 .any (Rows.fnCloneCallsDeepCopyAtAnyCutSpec.pre6 enc Try.prog Try.f4 Rows.fnCloneCallsDeepCopyAtAnyCutRow.domain false) (Rows.fnCloneCallsDeepCopyAtAnyCutSpec.post enc Try.prog Try.f4 false true false false) := by
  refine returnsInHanded_of_change (C := Try.checked) own started (by kernel_rfl) Try.func4
    (ChangeSpec.witness6 (enc := enc) (C := Try.checked) false ⟨#[], #[.slice none 0 0, .slice none 0 0, .slice none 0 0, .int .i64 0], []⟩ 8 (by kernel_rfl) (by kernel_rfl) (by kernel_rfl) (by kernel_rfl)) ?_
  intro W base args ds gs before hval0 hW hcnd _
  have hval : ∀ (j : Nat) t v, Try.f4.params[j]? = some t → args[j]? = some v → Value.okWide Try.prog W .any base t v := hval0
  have hW' := hW
  obtain ⟨p, q, hA0, hV, rfl, hfz, hnd⟩ := hW
  have hA : DataW.TrodAll enc Try.prog W 0 (fun _ => true) true Try.f4.params.toList args.toList ds p := hA0
  rw [Try.params4] at hA hval
  obtain ⟨v0, vs0, d0, ds0, p0, q0, hargs, rfl, rfl, h0, r0⟩ := trodAll_cons hA
  obtain ⟨v1, vs1, d1, ds1, p1, q1, rfl, rfl, rfl, h1, r1⟩ := trodAll_cons r0
  obtain ⟨v2, vs2, d2, ds2, p2, q2, rfl, rfl, rfl, h2, r2⟩ := trodAll_cons r1
  obtain ⟨v3, vs3, d3, ds3, p3, q3, rfl, rfl, rfl, h3, r3⟩ := trodAll_cons r2
  obtain ⟨rfl, rfl, rfl⟩ := trodAll_nil r3
  obtain rfl : args = #[v0, v1, v2, v3] := by cases args; simp_all
  obtain ⟨rfl, rfl⟩ := trodVars_none hV
  obtain ⟨a0, n0, c0, rfl⟩ := okWide_slice Try.underlying29 (hval 0 29 v0 rfl rfl)
  obtain ⟨a1, n1, c1, rfl⟩ := okWide_slice Try.underlying30 (hval 1 30 v1 rfl rfl)
  obtain ⟨a2, n2, c2, rfl⟩ := okWide_slice Try.underlying31 (hval 2 31 v2 rfl rfl)
  obtain ⟨k0, rfl, rfl, rfl, w3⟩ := open_int Try.underlying3 (hval 3 3 v3 rfl rfl) h3
  have lt0 : ∀ x ∈ p0, x.block < W.heap.size := by obtain ⟨m, hm⟩ := h0; exact DataW.trod_lt m _ _ _ hm
  have lt1 : ∀ x ∈ p1, x.block < W.heap.size := by obtain ⟨m, hm⟩ := h1; exact DataW.trod_lt m _ _ _ hm
  have lt2 : ∀ x ∈ p2, x.block < W.heap.size := by obtain ⟨m, hm⟩ := h2; exact DataW.trod_lt m _ _ _ hm
  obtain ⟨⟨P, hp, -⟩, -⟩ := open29 h0
  obtain ⟨A, L, C, S, ha, hs⟩ := open30 h1
  obtain ⟨T, ht, -⟩ := open31 h2
  clear hA0 hval0
  refine (walk a0 a1 a2 n0 c0 n1 c1 n2 c2 k0 P A L C T S W hp ha ht (fun i hi => (hs i hi).1) (fun i hi => (hs i hi).2)).mono fun e W' ⟨he, bel⟩ => ?_
  subst he
  exact ⟨_, rfl, _, _, _, [], _, [], hW', trodAll_mk1 (shut_bool Try.underlying4 _), (trodAll_cons_mk (Below.trod laidOut (by kernel_rfl) (of_decide_eq_true (by kernel_rfl)) h0 bel lt0) (trodAll_cons_mk (Below.trod laidOut (by kernel_rfl) (of_decide_eq_true (by kernel_rfl)) h1 bel lt1) (trodAll_cons_mk (Below.trod laidOut (by kernel_rfl) (of_decide_eq_true (by kernel_rfl)) h2 bel lt2) (trodAll_cons_mk (shut_int Try.underlying3 w3) trodAll_mk0)))), rfl, bel.frame _, fun h => by cases h⟩

theorem c1 : (Rows.fnCloneCallsDeepCopyAtAnyCutRow.wf (OpenSpec.ofChange Rows.fnCloneCallsDeepCopyAtAnyCutSpec)) = true := by kernel_rfl
theorem c2 : (laidOutB Try.pinned.checked.prog) = true := by kernel_rfl
theorem c3 : (mapsRowed Try.pinned.checked.prog) = true := by kernel_rfl
theorem c4 : (Try.f4.params.all (Try.pinned.checked.prog.readableRec ·)) = true := by kernel_rfl
theorem c5 : (namedTie Try.pinned.checked.prog Rows.fnCloneCallsDeepCopyAtAnyCutRow.named Rows.fnCloneCallsDeepCopyAtAnyCutSpec.vars) = true := by kernel_rfl
theorem c6 : ((Rows.fnCloneCallsDeepCopyAtAnyCutRow.stops == [])) = true := by kernel_rfl
theorem c7 : ((Try.pinned.checked.prog.stops == [])) = true := by kernel_rfl
theorem c8 : ((Rows.fnCloneCallsDeepCopyAtAnyCutRow.knobs == [])) = true := by kernel_rfl
theorem c9 : ((Try.pinned.checked.prog.stopKnobs == [])) = true := by kernel_rfl
theorem c10 : ((Rows.fnCloneCallsDeepCopyAtAnyCutRow.inPlace == Try.pinned.checked.prog.inPlace 4)) = true := by kernel_rfl
theorem c11 : ((Rows.fnCloneCallsDeepCopyAtAnyCutRow.unfollowed == Try.pinned.checked.prog.unfollowed 4)) = true := by kernel_rfl
theorem c12 : ((Rows.fnCloneCallsDeepCopyAtAnyCutRow.recurses == Try.pinned.checked.prog.recurses 4)) = true := by kernel_rfl
theorem c13 : ((Rows.fnCloneCallsDeepCopyAtAnyCutRow.named == Try.pinned.checked.prog.varsNamed 4)) = true := by kernel_rfl
theorem c14 : ((Rows.fnCloneCallsDeepCopyAtAnyCutRow.maps == (Try.f4.params.toList ++ Rows.fnCloneCallsDeepCopyAtAnyCutSpec.plain.varTypes Try.pinned.checked.prog).any (Try.pinned.checked.prog.mapsRec ·))) = true := by kernel_rfl
theorem c15 : ((Rows.fnCloneCallsDeepCopyAtAnyCutRow.ifaces == (Try.f4.params.toList ++ Rows.fnCloneCallsDeepCopyAtAnyCutSpec.plain.varTypes Try.pinned.checked.prog).any (Try.pinned.checked.prog.ifacesRec ·))) = true := by kernel_rfl
theorem c16 : ((Rows.fnCloneCallsDeepCopyAtAnyCutRow.mapsOut == Try.pinned.checked.prog.mapsAmong Try.f4.resultTypes.toList)) = true := by kernel_rfl
theorem c17 : ((Rows.fnCloneCallsDeepCopyAtAnyCutRow.loops == (Try.f4.params.toList ++ Rows.fnCloneCallsDeepCopyAtAnyCutSpec.plain.varTypes Try.pinned.checked.prog).any (Try.pinned.checked.prog.loopsFrom ·))) = true := by kernel_rfl
theorem c18 : ((Rows.fnCloneCallsDeepCopyAtAnyCutRow.wideKeys == (Try.f4.params.toList ++ Rows.fnCloneCallsDeepCopyAtAnyCutSpec.plain.varTypes Try.pinned.checked.prog ++ Try.f4.resultTypes.toList).any (Try.pinned.checked.prog.wideKeysFrom ·))) = true := by kernel_rfl
theorem c19 : (Rows.fnCloneCallsDeepCopyAtAnyCutSpec.vars.all (Try.pinned.checked.prog.varReadable ·)) = true := by kernel_rfl
theorem c20 : (Try.f4.resultTypes.all (fun t => Try.pinned.checked.prog.readableRec t && decide (t < Try.pinned.checked.prog.types.size))) = true := by kernel_rfl
theorem c21 : ((Rows.fnCloneCallsDeepCopyAtAnyCutRow.ifacesOut == Try.f4.resultTypes.toList.any (Try.pinned.checked.prog.ifacesRec ·))) = true := by kernel_rfl
theorem c22 : ((Rows.fnCloneCallsDeepCopyAtAnyCutRow.loopsOut == Try.f4.resultTypes.toList.any (Try.pinned.checked.prog.loopsFrom ·))) = true := by kernel_rfl
theorem c23 : ((Rows.fnCloneCallsDeepCopyAtAnyCutRow.plainKeys == Try.pinned.checked.prog.plainKeys)) = true := by kernel_rfl
theorem c24 : (Rows.fnCloneCallsDeepCopyAtAnyCutRow.shortTexts.isNone) = true := by kernel_rfl
theorem c25 : (Try.pinned.checked.prog.stopsHeard) = true := by kernel_rfl
theorem c26 : (Try.pinned.checked.prog.mayEnter) = true := mayEnter_eq
theorem c27 : ((Rows.fnCloneCallsDeepCopyAtAnyCutRow.lifted == Try.pinned.checked.prog.liftsFinal)) = true := by rw [liftsFinal_eq]; rfl
theorem c28 : ((Try.pinned.checked.prog.make == some Rows.fnCloneCallsDeepCopyAtAnyCutRow.make)) = true := by rw [make_eq]; rfl
theorem c29 : ((Rows.fnCloneCallsDeepCopyAtAnyCutRow.kinds == (if Rows.fnCloneCallsDeepCopyAtAnyCutRow.domain.isEmpty then [] else Try.f4.params.toList.map fun t => match Try.pinned.checked.prog.underlying t with | some (.int k) => some k | _ => none))) = true := by kernel_rfl
theorem c30 : ((Rows.fnCloneCallsDeepCopyAtAnyCutRow.pinned == Rows.fnCloneCallsDeepCopyAtAnyCutRow.pinnedBy)) = true := by kernel_rfl
theorem c31 : ((Rows.fnCloneCallsDeepCopyAtAnyCutRow.veiled == (Try.f4.params.toList ++ Rows.fnCloneCallsDeepCopyAtAnyCutSpec.plain.varTypes Try.pinned.checked.prog ++ Try.f4.resultTypes.toList).any (Try.pinned.checked.prog.veiledRec ·))) = true := by kernel_rfl
theorem c32 : (Rows.fnCloneCallsDeepCopyAtAnyCutRow.veiledFits Try.pinned.checked.prog Try.f4.params.toList (Try.f4.params.toList ++ Rows.fnCloneCallsDeepCopyAtAnyCutSpec.plain.varTypes Try.pinned.checked.prog ++ Try.f4.resultTypes.toList)) = true := by kernel_rfl
theorem closed : joinedFacts Try.pinned.checked.prog 4 Try.f4 Rows.fnCloneCallsDeepCopyAtAnyCutSpec Rows.fnCloneCallsDeepCopyAtAnyCutRow = true := and_mk (and_mk (and_mk (and_mk (and_mk (and_mk (and_mk (and_mk (and_mk (and_mk (and_mk (and_mk (and_mk (and_mk (and_mk (and_mk (and_mk (and_mk (and_mk (and_mk (and_mk (and_mk (and_mk (and_mk (and_mk (and_mk (and_mk (and_mk (and_mk (and_mk (and_mk c1 c2) c3) c4) c5) c6) c7) c8) c9) c10) c11) c12) c13) c14) c15) c16) c17) c18) c19) c20) c21) c22) c23) c24) c25) c26) c27) c28) c29) c30) c31) c32

theorem over : Rows.fnCloneCallsDeepCopyAtAnyCutRow.holds Try.pinned (OpenSpec.ofChange Rows.fnCloneCallsDeepCopyAtAnyCutSpec) :=
  OpenClaim.holds_of_wide 4 Try.f4 rfl rfl rfl rfl rfl rfl rfl ⟨rfl, rfl, rfl, rfl, rfl⟩ rfl rfl rfl rfl rfl (by kernel_rfl) Try.func4 closed
    (of_decide_eq_true (by kernel_rfl)) (by unfold Func.isWrapper; first | (rw [if_pos (by decide +kernel)]; kernel_rfl) | (rw [if_neg (by decide +kernel)]; exact ⟨rfl, rfl⟩))
    (fun os started H enc _ => lifted os started H enc)

theorem proved : Rows.FnCloneCallsDeepCopyAtAnyCutSaid := over
end Go.Proofs.Qxb6003656a.fnCloneCallsDeepCopyAtAnyCut
