import Derived.Test.Qxb6600445aPlain
namespace Go.Proofs.Qxb6600445a

theorem withAcc_len (it : Itm) (t : Nat) : (withAcc it t).wr.length = it.wr.length ∧ (withAcc it t).ac.length ≤ it.ac.length + 1 := by
  unfold withAcc
  split
  · exact ⟨rfl, by omega⟩
  · exact ⟨rfl, by simp⟩

theorem itemOf_len {st : St} {k : Nat} (h : ∀ s it, st.items s = some it → it.wr.length ≤ k ∧ it.ac.length ≤ k) (s : ByteArray) : (itemOf st s).wr.length ≤ k ∧ (itemOf st s).ac.length ≤ k := by
  unfold itemOf
  cases e : st.items s with
  | none => exact ⟨Nat.zero_le _, Nat.zero_le _⟩
  | some it => exact h s it e

theorem run_len (ops : Nat → Opp) : ∀ k, (∀ s it, (runF ops k).items s = some it → it.wr.length ≤ k ∧ it.ac.length ≤ k) ∧ ∀ u, ((runF ops k).succ u).length ≤ k := by
  intro k
  induction k with
  | zero => exact ⟨fun s it h => (by cases h), fun u => Nat.le_refl _⟩
  | succ k ih =>
    have h0 := itemOf_len ih.1 (ops k).s
    have h1 := withAcc_len (itemOf (runF ops k) (ops k).s) (ops k).t
    refine ⟨fun s it h => ?_, fun u => ?_⟩
    · have h' : setItem (runF ops k).items (ops k).s (itemF (itemOf (runF ops k) (ops k).s) (ops k)) s = some it := h
      unfold setItem at h'
      by_cases e : s = (ops k).s
      · rw [if_pos e] at h'
        cases h'
        rw [itemF_ac, itemF_wr]
        refine ⟨?_, by omega⟩
        split
        · simp; omega
        · omega
      · rw [if_neg e] at h'
        have := ih.1 s it h'
        omega
    · have hu := ih.2 u
      show (drawE (runF ops k).succ (ops k).t _ u).length ≤ k + 1
      rcases len_drawE (ops k).t u ((fromOf (withAcc (itemOf (runF ops k) (ops k).s) (ops k).t) (ops k).wr).drop (drawnOf (accOf (withAcc (itemOf (runF ops k) (ops k).s) (ops k).t) (ops k).t) (ops k).wr)) (runF ops k).succ with h | h
      · rw [h]; omega
      · rw [h]; simp; omega

/-- What the round knows of the item and the access it works on. -/
theorem round_facts {ops : Nat → Opp} {k m : Nat} (hm : ∀ i, i < k + 1 → (ops i).t < m) :
    (∀ u, u ∈ fromOf (withAcc (itemOf (runF ops k) (ops k).s) (ops k).t) (ops k).wr → u < m) ∧
    drawnOf (accOf (withAcc (itemOf (runF ops k) (ops k).s) (ops k).t) (ops k).t) (ops k).wr ≤ (fromOf (withAcc (itemOf (runF ops k) (ops k).s) (ops k).t) (ops k).wr).length ∧
    (withAcc (itemOf (runF ops k) (ops k).s) (ops k).t).wr.length ≤ k ∧ (withAcc (itemOf (runF ops k) (ops k).s) (ops k).t).ac.length ≤ k + 1 := by
  have h0 := itemOf_ok (run_ok ops k) (ops k).s
  have hl := itemOf_len (run_len ops k).1 (ops k).s
  generalize itemOf (runF ops k) (ops k).s = it at h0 hl
  have hw := withAcc_len it (ops k).t
  refine ⟨fun u hu => ?_, ?_, by omega, by omega⟩
  · unfold fromOf at hu
    cases e : (ops k).wr with
    | true =>
      rw [e] at hu
      simp only [if_true] at hu
      rcases (withAcc_ac it (ops k).t u h0.there).1 hu with h1 | h1
      · obtain ⟨i, hi, _, rfl⟩ := (h0.ac u).1 h1
        exact hm i (by omega)
      · rw [h1]; exact hm k (by omega)
    | false =>
      rw [e] at hu
      simp only [Bool.false_eq_true, if_false, withAcc_wr] at hu
      obtain ⟨i, hi, _, rfl, _⟩ := (h0.wr u).1 hu
      exact hm i (by omega)
  · have hac : it.ac.length ≤ (withAcc it (ops k).t).ac.length := by
      unfold withAcc
      split
      · exact Nat.le_refl _
      · simp
    rcases accOf_old it (ops k).t with h1 | ⟨_, h1⟩
    · have a0 := h0.l0 _ _ h1
      have a1 := h0.l1 _ _ h1
      unfold drawnOf fromOf
      cases (ops k).wr with
      | true => simp only [if_true]; omega
      | false => simp only [Bool.false_eq_true, if_false, withAcc_wr]; omega
    · rw [h1]
      unfold drawnOf
      split <;> exact Nat.zero_le _

/-- Edge by edge. -/
theorem drawE_snoc (g : Nat → List Nat) (t : Nat) (l : List Nat) (u : Nat) : drawE g t (l ++ [u]) = if u = t then drawE g t l else addE (drawE g t l) u t := by
  unfold drawE
  rw [List.foldl_append]
  rfl

end Go.Proofs.Qxb6600445a
