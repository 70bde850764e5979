import Derived.Test.Qxb6600445aRows
import Derived.Maps.Keyed
import Derived.MapKept
import Derived.WalkKit
import Derived.Below
namespace Go.Proofs.Qxb6600445a
open Go.RowKit Go.Maps Go.ChangeMaps Go.WideMaps

/-- Block B is a map whose entry at key x is M x. -/
def MapIs (P : Program) (k : TypeId) (w : World) (B : Nat) (M : Value → Option Value) : Prop :=
  ∃ es clock, w.heap[B]? = some (.map es clock) ∧ (es.toList.map (·.key)).Nodup ∧ (∀ e ∈ es.toList, ∃ l, keyOf P k e.key = some l) ∧
    ∀ x v, M x = some v ↔ ∃ e ∈ es.toList, e.key = x ∧ e.val = v

theorem MapIs.made (P : Program) (k : TypeId) (w : World) : MapIs P k (w.alloc (.map #[] 0)) w.heap.size (fun _ => none) :=
  ⟨#[], 0, (Go.MapKept.heap_alloc w _).1, by simp, by simp, by simp⟩

theorem MapIs.of_block {P : Program} {k : TypeId} {w w' : World} {B : Nat} {M : Value → Option Value} (h : MapIs P k w B M) (e : w'.heap[B]? = w.heap[B]?) : MapIs P k w' B M := by
  obtain ⟨es, clock, h1, h2⟩ := h
  exact ⟨es, clock, e.trans h1, h2⟩

theorem MapIs.lt {P : Program} {k : TypeId} {w : World} {B : Nat} {M : Value → Option Value} (h : MapIs P k w B M) : B < w.heap.size := by
  obtain ⟨es, clock, h1, h2⟩ := h
  exact (Array.getElem?_eq_some_iff.1 h1).1

/-- Two entries at one key are one. -/
theorem entry_one {l : List MapEntry} (h : (l.map (·.key)).Nodup) {e e' : MapEntry} (he : e ∈ l) (he' : e' ∈ l) (hk : e.key = e'.key) : e = e' := by
  induction l with
  | nil => cases he
  | cons a l ih =>
    simp only [List.map_cons, List.nodup_cons, List.mem_map, not_exists, not_and] at h
    rcases List.mem_cons.1 he with rfl | he1
    · rcases List.mem_cons.1 he' with rfl | he2
      · rfl
      · exact absurd hk.symm (h.1 e' he2)
    · rcases List.mem_cons.1 he' with rfl | he2
      · exact absurd hk (h.1 e he1)
      · exact ih h.2 he1 he2

theorem index_one {l : List MapEntry} (h : (l.map (·.key)).Nodup) {i j : Nat} {e e' : MapEntry} (hi : l[i]? = some e) (hj : l[j]? = some e') (hk : e.key = e'.key) : i = j := by
  have hp := List.pairwise_iff_getElem.1 h
  obtain ⟨hil, hie⟩ := List.getElem?_eq_some_iff.1 hi
  obtain ⟨hjl, hje⟩ := List.getElem?_eq_some_iff.1 hj
  rcases Nat.lt_trichotomy i j with hlt | heq | hgt
  · exact ((hp i j (by simpa using hil) (by simpa using hjl) hlt) (by simp [hie, hje, hk])).elim
  · exact heq
  · exact ((hp j i (by simpa using hjl) (by simpa using hil) hgt) (by simp [hie, hje, hk])).elim

theorem MapIs.look {P : Program} {k e T : TypeId} {w : World} {B : Nat} {M : Value → Option Value} (h : MapIs P k w B M) (K : Keyed P k) (ht : P.underlying T = some (.map k e)) {z : Value} (hz : (zeroValue e).run P w = .ok z w)
    {x : Value} {lx : Lit} (hx : keyOf P k x = some lx) (c : Bool) :
    (Instr.lookup T (.map (some B)) x c).run P w = .ok (if c then .tuple #[(M x).getD z, .bool (M x).isSome] else (M x).getD z) w := by
  obtain ⟨es, clock, hb, hnd, hks, hM⟩ := h
  have hck := K.check w es.isEmpty hx
  rcases K.find w hx es.toList hks with ⟨h1, h2⟩ | ⟨j, e0, h1, h2, h3⟩
  · have hn : M x = none := by
      cases hm : M x with
      | none => rfl
      | some v =>
        obtain ⟨e1, he1, hk1, _⟩ := (hM x v).1 hm
        exact absurd hk1 (h2 e1 he1)
    simp [Instr.lookup, run_underlying ht, Go.MapKept.run_getObj_map hb, hck, h1, hz, hn, Result.andThen]
  · have hs : M x = some e0.val := (hM x e0.val).2 ⟨e0, List.mem_of_getElem? h2, h3, rfl⟩
    simp [Instr.lookup, run_underlying ht, Go.MapKept.run_getObj_map hb, hck, h1, hs, Result.andThen]

theorem MapIs.store {P : Program} {k e T : TypeId} {w : World} {B : Nat} {M M' : Value → Option Value} (h : MapIs P k w B M) (K : Keyed P k) (ht : P.underlying T = some (.map k e))
    {x v : Value} {lx : Lit} (hx : keyOf P k x = some lx) (h1 : M' x = some v) (h2 : ∀ y, y ≠ x → M' y = M y) :
    ∃ w', (Instr.mapUpdate T (.map (some B)) x v).run P w = .ok () w' ∧ MapIs P k w' B M' ∧ w.grownBy w' (some B) ∧ w'.heap.size = w.heap.size := by
  obtain ⟨es, clock, hb, hnd, hks, hM⟩ := h
  have hck := K.check w false hx
  rcases K.find w hx es.toList hks with ⟨f1, f2⟩ | ⟨j, e0, f1, f2, f3⟩
  · refine ⟨{ w with heap := w.heap.setIfInBounds B (.map (es.push { key := x, val := v, born := clock }) (clock + 1)) }, ?_, ⟨_, _, (Go.MapKept.heap_set hb).1, ?_, ?_, ?_⟩, ⟨rfl, rfl, rfl, by simp, fun b _ hne => (Go.MapKept.heap_set hb).2 b (fun e => hne (by rw [e]))⟩, by simp⟩
    · simp [Instr.mapUpdate, run_underlying ht, Go.MapKept.run_getObj_map hb, hck, f1, Go.MapKept.run_setObj_map _ hb, Result.andThen]
    · simp only [Array.toList_push, List.map_append, List.map_cons, List.map_nil, List.nodup_append]
      refine ⟨hnd, by simp, ?_⟩
      intro a ha b hb'
      simp only [List.mem_singleton] at hb'
      obtain ⟨e1, he1, rfl⟩ := List.mem_map.1 ha
      rw [hb']
      exact f2 e1 he1
    · intro e1 he1
      simp only [Array.toList_push, List.mem_append, List.mem_singleton] at he1
      rcases he1 with he1 | rfl
      · exact hks e1 he1
      · exact ⟨lx, hx⟩
    · intro y u
      simp only [Array.toList_push, List.mem_append, List.mem_singleton]
      by_cases hy : y = x
      · subst hy
        rw [h1]
        constructor
        · intro hu
          exact ⟨_, .inr rfl, rfl, by simpa using hu⟩
        · rintro ⟨e1, he1 | rfl, hk1, hv1⟩
          · exact absurd hk1 (f2 e1 he1)
          · exact congrArg some hv1
      · rw [h2 y hy, hM]
        constructor
        · rintro ⟨e1, he1, hh⟩
          exact ⟨e1, .inl he1, hh⟩
        · rintro ⟨e1, he1 | rfl, hk1, hv1⟩
          · exact ⟨e1, he1, hk1, hv1⟩
          · exact absurd hk1.symm hy
  · have hj : es[j]? = some e0 := by simpa using f2
    have hjl : j < es.size := (Array.getElem?_eq_some_iff.1 hj).1
    have hkeys : (es.modify j fun e => { e with key := x, val := v }).toList.map (·.key) = es.toList.map (·.key) := by
      apply List.ext_getElem?
      intro i
      simp only [List.getElem?_map, Array.getElem?_toList, Array.getElem?_modify]
      by_cases hij : j = i
      · subst hij
        simp [hj, f3]
      · simp [hij]
    refine ⟨{ w with heap := w.heap.setIfInBounds B (.map (es.modify j fun e => { e with key := x, val := v }) clock) }, ?_, ⟨_, _, (Go.MapKept.heap_set hb).1, ?_, ?_, ?_⟩, ⟨rfl, rfl, rfl, by simp, fun b _ hne => (Go.MapKept.heap_set hb).2 b (fun e => hne (by rw [e]))⟩, by simp⟩
    · simp [Instr.mapUpdate, run_underlying ht, Go.MapKept.run_getObj_map hb, hck, f1, hj, f3, K.stays w hx, Go.MapKept.run_setObj_map _ hb, Result.andThen]
    · rw [hkeys]; exact hnd
    · intro e1 he1
      have : e1.key ∈ (es.modify j fun e => { e with key := x, val := v }).toList.map (·.key) := List.mem_map_of_mem he1
      rw [hkeys] at this
      obtain ⟨e2, he2, hk2⟩ := List.mem_map.1 this
      rw [← hk2]
      exact hks e2 he2
    · have hmem : ∀ e1, e1 ∈ (es.modify j fun e => { e with key := x, val := v }).toList ↔ (e1 = { e0 with key := x, val := v }) ∨ (e1 ∈ es.toList ∧ e1.key ≠ x) := by
        intro e1
        constructor
        · intro he
          obtain ⟨i, hi⟩ := List.getElem?_of_mem he
          simp only [Array.getElem?_toList, Array.getElem?_modify] at hi
          by_cases hij : j = i
          · subst hij
            simp [hj] at hi
            exact .inl hi.symm
          · simp [hij] at hi
            refine .inr ⟨List.mem_of_getElem? (i := i) (by simpa using hi), fun hk => hij ?_⟩
            have h0 : e1 = e0 := entry_one hnd (List.mem_of_getElem? (i := i) (by simpa using hi)) (List.mem_of_getElem? f2) (hk.trans f3.symm)
            subst h0
            exact index_one hnd f2 (by simpa using hi) rfl
        · rintro (rfl | ⟨he, hne⟩)
          · refine List.mem_of_getElem? (i := j) ?_
            simp [hj]
          · obtain ⟨i, hi⟩ := List.getElem?_of_mem he
            have hi' : es[i]? = some e1 := by simpa using hi
            refine List.mem_of_getElem? (i := i) ?_
            have hij : j ≠ i := by
              rintro rfl
              rw [hj] at hi'
              cases hi'
              exact hne f3
            simp [hij, hi']
      intro y u
      by_cases hy : y = x
      · subst hy
        rw [h1]
        constructor
        · intro hu
          exact ⟨_, (hmem _).2 (.inl rfl), rfl, by simpa using hu⟩
        · rintro ⟨e1, he1, hk1, hv1⟩
          rcases (hmem e1).1 he1 with rfl | ⟨_, hne⟩
          · exact congrArg some hv1
          · exact absurd hk1 hne
      · rw [h2 y hy, hM]
        constructor
        · rintro ⟨e1, he1, hk1, hv1⟩
          exact ⟨e1, (hmem e1).2 (.inr ⟨he1, fun h => hy (hk1.symm.trans h)⟩), hk1, hv1⟩
        · rintro ⟨e1, he1, hk1, hv1⟩
          rcases (hmem e1).1 he1 with rfl | ⟨he2, _⟩
          · exact absurd hk1.symm hy
          · exact ⟨e1, he2, hk1, hv1⟩

theorem exists_upd (M : Value → Option Value) (x v : Value) : ∃ M' : Value → Option Value, M' x = some v ∧ ∀ y, y ≠ x → M' y = M y := by
  classical
  exact ⟨fun y => if y = x then some v else M y, by simp, fun y hy => by simp [hy]⟩

/-- A store: the entry at x is v from now on. -/
theorem MapIs.put {P : Program} {k e T : TypeId} {w : World} {B : Nat} {M : Value → Option Value} (h : MapIs P k w B M) (K : Keyed P k) (ht : P.underlying T = some (.map k e))
    {x : Value} (v : Value) {lx : Lit} (hx : keyOf P k x = some lx) :
    ∃ w' M', (Instr.mapUpdate T (.map (some B)) x v).run P w = .ok () w' ∧ MapIs P k w' B M' ∧ w.grownBy w' (some B) ∧ w'.heap.size = w.heap.size ∧ M' x = some v ∧ ∀ y, y ≠ x → M' y = M y := by
  obtain ⟨M', h1, h2⟩ := exists_upd M x v
  obtain ⟨w', e1, e2, e3, e4⟩ := h.store K ht hx h1 h2
  exact ⟨w', M', e1, e2, e3, e4, h1, h2⟩

end Go.Proofs.Qxb6600445a
