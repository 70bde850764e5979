import Derived.Test.Qxb6003656aBase
import Derived.ProofKit
import Derived.Deep.Strs
import Derived.Deep.Slices
namespace Go.Proofs.Qxb6003656a
open Go.ChangeShapes Go.WideShapes Go.ChangeAt Go.RowKit Go.Deep

section
variable {H : Type} {enc : TypeId × Value → H} {W : World}

theorem addr_plain {x : Addr} {i : Nat} {v : Value} (h : W.cell? (x.add i) = some v) (hx : x.spot = none) : W.cell? ⟨x.block, x.off + i, none⟩ = some v := by
  obtain ⟨b, o, s⟩ := x
  simp only at hx
  subst hx
  rw [← Addr.add_lit]
  exact h

/-- From cells behind an address to the plain form. -/
theorem slv_of {x : Addr} {n : Nat} {f : Nat → Value} (h : ∀ i, i < n → W.cell? (x.add i) = some (f i)) : SlV W (some x) n f := by
  rcases Nat.eq_zero_or_pos n with h0 | hpos
  · exact .inl h0
  · have hs : x.spot = none := by simpa [Addr.add] using World.cell?_spot (h 0 hpos)
    obtain ⟨b, o, s⟩ := x
    simp only at hs
    subst hs
    exact .inr ⟨b, o, rfl, fun i hi => by rw [← Addr.add_lit]; exact h i hi⟩

theorem open29_cells {fuel : Nat} {a : Option Addr} {l c : Nat} {x : DataW H × List MemPlace} (h : DataW.trod enc Try.prog W 0 (fun _ => true) true fuel 29 [.slice a l c] = some x) :
    (∃ S : Nat → ByteArray, SlV W a l (fun j => .string (S j)) ∧ ∀ j, j < l → (S j).size ≤ maxLen) ∧ (a = none → l = 0 ∧ c = 0) := by
  rcases open_strs Try.underlying29 Try.underlying9 (by kernel_rfl) h with ⟨hcs, _⟩ | ⟨x', len, cap, m, Sx, hcs, _, hl, hm, hmm, _, hcell⟩
  · simp only [List.cons.injEq, Value.slice.injEq, and_true] at hcs
    obtain ⟨rfl, rfl, rfl⟩ := hcs
    exact ⟨⟨fun _ => ByteArray.empty, .inl rfl, fun j hj => by omega⟩, fun _ => ⟨rfl, rfl⟩⟩
  · simp only [List.cons.injEq, Value.slice.injEq, and_true] at hcs
    obtain ⟨rfl, rfl, rfl⟩ := hcs
    have hml : l ≤ m := by rw [hmm]; simpa using hl
    exact ⟨⟨Sx, slv_of (fun i hi => (hcell i (by omega)).1), fun j hj => (hcell j (by omega)).2⟩, fun h => by cases h⟩

theorem open29 {a : Option Addr} {l c : Nat} {d : DataW H} {p : List MemPlace} (h : DataW.Trod enc Try.prog W 0 (fun _ => true) true 29 (.slice a l c) d p) :
    (∃ S : Nat → ByteArray, SlV W a l (fun j => .string (S j)) ∧ ∀ j, j < l → (S j).size ≤ maxLen) ∧ (a = none → l = 0 ∧ c = 0) := by
  obtain ⟨fuel, hf⟩ := h
  exact open29_cells (by simpa [Value.cells] using hf)

theorem open31 {a : Option Addr} {l c : Nat} {d : DataW H} {p : List MemPlace} (h : DataW.Trod enc Try.prog W 0 (fun _ => true) true 31 (.slice a l c) d p) :
    ∃ T : Nat → Int, SlV W a l (fun j => .int .i64 (T j)) ∧ ∀ j, j < l → (Lit.int .i64 (T j)).wf = true := by
  obtain ⟨fuel, hf⟩ := h
  rcases open_ints Try.underlying31 Try.underlying2 (by kernel_rfl) hf with ⟨hcs, _⟩ | ⟨x', len, cap, zs, hcs, _, hl, hm, hz, _, hcell, hwz⟩
  · simp [Value.cells] at hcs
    obtain ⟨rfl, rfl, rfl⟩ := hcs
    exact ⟨fun _ => 0, .inl rfl, fun j hj => by omega⟩
  · simp [Value.cells] at hcs
    obtain ⟨rfl, rfl, rfl⟩ := hcs
    have hz' : zs.length = c := by simpa using hz
    refine ⟨fun i => zs.getD i 0, slv_of (fun i hi => hcell i (by omega)), fun j hj => ?_⟩
    have hj' : j < zs.length := by omega
    have e : zs.getD j 0 = zs[j] := by simp [List.getD, hj']
    show (Lit.int .i64 (zs.getD j 0)).wf = true
    rw [e]
    exact hwz _ (List.getElem_mem _)

theorem open30 {a : Option Addr} {l c : Nat} {d : DataW H} {p : List MemPlace} (h : DataW.Trod enc Try.prog W 0 (fun _ => true) true 30 (.slice a l c) d p) :
    ∃ (A : Nat → Option Addr) (L C : Nat → Nat) (S : Nat → Nat → ByteArray), SlV W a l (fun i => .slice (A i) (L i) (C i)) ∧ ∀ i, i < l → SlV W (A i) (L i) (fun j => .string (S i j)) ∧ (A i = none → L i = 0 ∧ C i = 0) := by
  obtain ⟨fuel, hf⟩ := h
  rcases open_slice1 Try.underlying30 (by kernel_rfl) hf with ⟨hcs, _⟩ | ⟨x', len, cap, m, n, V, D, Pl, hcs, _, hl, hm, hmm, _, hcell⟩
  · simp [Value.cells] at hcs
    obtain ⟨rfl, rfl, rfl⟩ := hcs
    exact ⟨fun _ => none, fun _ => 0, fun _ => 0, fun _ _ => ByteArray.empty, .inl rfl, fun i hi => by omega⟩
  · simp [Value.cells] at hcs
    obtain ⟨rfl, rfl, rfl⟩ := hcs
    have hml : l ≤ m := by rw [hmm]; simpa using hl
    have each : ∀ i, i < l → ∃ y : Option Addr × Nat × Nat × (Nat → ByteArray), V i = .slice y.1 y.2.1 y.2.2.1 ∧ SlV W y.1 y.2.1 (fun j => .string (y.2.2.2 j)) ∧ (y.1 = none → y.2.1 = 0 ∧ y.2.2.1 = 0) := by
      intro i hi
      have h2 := (hcell i (by omega)).2
      have hv : ∃ a' l' c', V i = .slice a' l' c' := by
        rcases open_strs Try.underlying29 Try.underlying9 (by kernel_rfl) h2 with ⟨hcs', _⟩ | ⟨x2, len2, cap2, m2, Sx, hcs', _⟩
        · simp only [List.cons.injEq, and_true] at hcs'
          exact ⟨none, 0, 0, hcs'⟩
        · simp only [List.cons.injEq, and_true] at hcs'
          exact ⟨some x2, len2, cap2, hcs'⟩
      obtain ⟨a', l', c', hv⟩ := hv
      rw [hv] at h2
      obtain ⟨⟨S, hS, _⟩, hn⟩ := open29_cells h2
      exact ⟨(a', l', c', S), hv, hS, hn⟩
    have ⟨F, hF⟩ := choose_lt each
    refine ⟨fun i => (F i).1, fun i => (F i).2.1, fun i => (F i).2.2.1, fun i => (F i).2.2.2, slv_of (fun i hi => ?_), fun i hi => (hF i hi).2⟩
    rw [(hcell i (by omega)).1, (hF i hi).1]
end
end Go.Proofs.Qxb6003656a
