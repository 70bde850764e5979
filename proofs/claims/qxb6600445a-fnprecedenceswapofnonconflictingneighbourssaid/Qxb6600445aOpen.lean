import Derived.Test.Qxb6600445aPlaces
import Derived.ProofKit
import Derived.Deep.Strs
import Derived.Deep.Slices
namespace Go.Proofs.Qxb6600445a
open Go.ChangeShapes Go.WideShapes Go.ChangeAt Go.RowKit Go.Deep

section
variable {H : Type} {enc : TypeId × Value → H} {W : World}

/-- From cells behind an address to the plain form. -/
theorem slv_of {x : Addr} {n : Nat} {f : Nat → Value} (h : ∀ i, i < n → W.cell? (x.add i) = some (f i)) : SlV W (some x) n f := by
  rcases Nat.eq_zero_or_pos n with h0 | hpos
  · exact .inl h0
  · have hs : x.spot = none := by simpa [Addr.add] using World.cell?_spot (h 0 hpos)
    obtain ⟨b, o, s⟩ := x
    simp only at hs
    subst hs
    exact .inr ⟨b, o, rfl, fun i hi => by rw [← Addr.add_lit]; exact h i hi⟩

theorem open22 {a : Option Addr} {l c : Nat} {d : DataW H} {p : List MemPlace} (h : DataW.Trod enc Try.prog W 0 (fun _ => true) true 22 (.slice a l c) d p) :
    ∃ S : Nat → ByteArray, SlV W a l (fun j => .string (S j)) := by
  obtain ⟨fuel, hf⟩ := h
  have hf' : DataW.trod enc Try.prog W 0 (fun _ => true) true fuel 22 [.slice a l c] = some (d, p) := by simpa [Value.cells] using hf
  rcases open_strs Try.underlying22 Try.underlying9 (by kernel_rfl) hf' with ⟨hcs, _⟩ | ⟨x', len, cap, m, Sx, hcs, _, hl, hm, hmm, _, hcell⟩
  · simp only [List.cons.injEq, Value.slice.injEq, and_true] at hcs
    obtain ⟨rfl, rfl, rfl⟩ := hcs
    exact ⟨fun _ => ByteArray.empty, .inl rfl⟩
  · simp only [List.cons.injEq, Value.slice.injEq, and_true] at hcs
    obtain ⟨rfl, rfl, rfl⟩ := hcs
    have hml : l ≤ m := by rw [hmm]; simpa using hl
    exact ⟨Sx, slv_of (fun i hi => (hcell i (by omega)).1)⟩

theorem open33 {a : Option Addr} {l c : Nat} {d : DataW H} {p : List MemPlace} (h : DataW.Trod enc Try.prog W 0 (fun _ => true) true 33 (.slice a l c) d p) :
    ∃ T : Nat → Nat, SlV W a l (fun j => .int .u16 (T j)) ∧ ∀ j, j < l → T j < 65536 := by
  obtain ⟨fuel, hf⟩ := h
  rcases open_ints Try.underlying33 Try.underlying41 (by kernel_rfl) hf with ⟨hcs, _⟩ | ⟨x', len, cap, zs, hcs, _, hl, hm, hz, _, hcell, hwz⟩
  · simp [Value.cells] at hcs
    obtain ⟨rfl, rfl, rfl⟩ := hcs
    exact ⟨fun _ => 0, .inl rfl, fun j hj => by omega⟩
  · simp [Value.cells] at hcs
    obtain ⟨rfl, rfl, rfl⟩ := hcs
    have hz' : zs.length = c := by simpa using hz
    have hr : ∀ j, j < l → 0 ≤ zs.getD j 0 ∧ zs.getD j 0 < 65536 := fun j hj => by
      have hj' : j < zs.length := by omega
      have e : zs.getD j 0 = zs[j] := by simp [List.getD, hj']
      rw [e]
      have := hwz _ (List.getElem_mem hj')
      simp [Lit.wf, IntKind.min, IntKind.max, IntKind.signed, IntKind.bits] at this
      omega
    refine ⟨fun i => (zs.getD i 0).toNat, slv_of (fun i hi => ?_), fun j hj => by have := hr j hj; show (zs.getD j 0).toNat < 65536; omega⟩
    have := hr i hi
    rw [hcell i (by omega)]
    show some (Value.int .u16 (zs.getD i 0)) = some (Value.int .u16 ((zs.getD i 0).toNat : Int))
    rw [Int.toNat_of_nonneg this.1]

theorem open34 {a : Option Addr} {l c : Nat} {d : DataW H} {p : List MemPlace} (h : DataW.Trod enc Try.prog W 0 (fun _ => true) true 34 (.slice a l c) d p) :
    ∃ Wr : Nat → Bool, SlV W a l (fun j => .bool (Wr j)) := by
  obtain ⟨fuel, hf⟩ := h
  rcases open_slice1 Try.underlying34 (by kernel_rfl) hf with ⟨hcs, _⟩ | ⟨x', len, cap, m, n, V, D, Pl, hcs, _, hl, hm, hmm, _, hcell⟩
  · simp [Value.cells] at hcs
    obtain ⟨rfl, rfl, rfl⟩ := hcs
    exact ⟨fun _ => false, .inl rfl⟩
  · simp [Value.cells] at hcs
    obtain ⟨rfl, rfl, rfl⟩ := hcs
    have hml : l ≤ m := by rw [hmm]; simpa using hl
    refine ⟨fun i => match V i with | .bool b => b | _ => false, slv_of (fun i hi => ?_)⟩
    obtain ⟨h1, h2⟩ := hcell i (by omega)
    obtain ⟨b, hb, _⟩ := DataW.trod_bool Try.underlying4 h2
    simp only [List.cons.injEq, and_true] at hb
    rw [h1]
    simp only [hb]

end
end Go.Proofs.Qxb6600445a
