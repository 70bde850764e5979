import Derived.Test.Qxb6600445aState
namespace Go.Proofs.Qxb6600445a
open Go.RowKit Go.Maps

/-- n cells behind the address: cell i holds f i. -/
def SlV (w : World) (a : Option Addr) (n : Nat) (f : Nat → Value) : Prop :=
  n = 0 ∨ ∃ B o, a = some ⟨B, o, none⟩ ∧ ∀ i, i < n → w.cell? ⟨B, o + i, none⟩ = some (f i)

theorem SlV.below {w w' : World} {a : Option Addr} {n : Nat} {f : Nat → Value} {H : Nat} (h : SlV w a n f) (hb : Below H w w') (hH : w.heap.size ≤ H) : SlV w' a n f := by
  rcases h with h | ⟨B, o, h1, h3⟩
  · exact .inl h
  · refine .inr ⟨B, o, h1, fun i hi => ?_⟩
    rw [hb.cell (p := ⟨B, o + i, none⟩) (Nat.lt_of_lt_of_le (World.block_lt_of_cell? _ _ (h3 i hi)) hH)]
    exact h3 i hi

theorem run_makeMapN (T k e : TypeId) (ht : Try.prog.underlying T = some (.map k e)) (n : Int) (w : World) : (Instr.makeMap T (some (.int .i64 n))).run Try.prog w = .ok (.map (some w.heap.size)) (w.alloc (.map #[] 0)) := by
  simp [Instr.makeMap, run_underlying ht, asInt, asIntOf]

/-- What places leaves. -/
def Placed (w w' : World) (e : Ending) (n : Nat) (X : Nat → ByteArray) : Prop :=
  ∃ pb M, e = .returned (.map (some pb)) ∧ Below w.heap.size w w' ∧ w.heap.size ≤ pb ∧ MapIs Try.prog 44 w' pb M ∧ ∀ i, i < n → M (.string (X i)) = some (.int .i64 i)

set_option maxHeartbeats 1000000 in
theorem places_any (a : Option Addr) (n c : Nat) (X : Nat → ByteArray) (w : World) (h : SlV w a n (fun i => .string (X i))) (hn : n ≤ 65536) (hd : ∀ i j, i < n → j < n → X i = X j → i = j) (hsz : ∀ i, i < n → (X i).size ≤ 1048576) :
    Calls Try.prog 34 #[.slice a n c] w fun e w' => Placed w w' e n X := by
  have hmm := run_makeMapN 70 44 3 Try.underlying70
  go_enter Try.func34, Try.ntmps34
  go_wp2
  go_loopw [11] (fun i wr => ∃ (k : Nat) (M : Value → Option Value), k ≤ n ∧ i = .int .i64 k ∧ Below w.heap.size w wr ∧ MapIs Try.prog 44 wr w.heap.size M ∧ ∀ i, i < k → M (.string (X i)) = some (.int .i64 i)) (fun i _ => n - (intOf i).toNat)
  case atStart => exact ⟨0, fun _ => none, by omega, rfl, (Below.refl _ _).alloc (Nat.le_refl _) _, MapIs.made _ _ _, fun i hi => by omega⟩
  case round =>
    obtain ⟨k, M, hk, rfl, hbel, hmap, hM⟩ := hrel
    by_cases hlt : k < n
    · rcases h with h0 | ⟨B, o, rfl, hx⟩
      · omega
      have xb : B < w.heap.size := World.block_lt_of_cell? _ _ (hx k hlt)
      have g1 : wr.cell? ⟨B, o + k, none⟩ = some (.string (X k)) := (hbel.cell (p := ⟨B, o + k, none⟩) xb).trans (hx k hlt)
      obtain ⟨w1, M1, e1, hmap1, hg1, hs1, hM1, hM1'⟩ := hmap.put law44 Try.underlying70 (.int .i64 k) (Go.WideMaps.keyOf_string_mk Try.underlying44 (s := X k) (by have := hsz k hlt; unfold maxLen; omega))
      have hb1 : Below w.heap.size w w1 := hbel.grown hg1 hbel.size (fun j hj => by cases hj; exact Nat.le_refl _)
      have hlt' : (k : Int) < n := by omega
      have HM : Hid (∀ i, i < k + 1 → M1 (.string (X i)) = some (.int .i64 i)) := fun i hi => by
        by_cases e : i = k
        · subst e; exact hM1
        · rw [hM1' _ (fun he => e (hd i k (by omega) hlt (by simpa using he)))]
          exact hM i (by omega)
      clear hx hM hM1 hM1' hmap hg1 hbel
      go_wp2
      go_roundw
      case rel => exact ⟨k + 1, M1, by omega, by go_num, hb1, hmap1, HM.out⟩
      case measure => simp [intOf]; omega
    · obtain rfl : n = k := by omega
      have hlt' : ¬ (n : Int) < n := by omega
      go_wp2
      go_ret
      exact ⟨w.heap.size, M, rfl, hbel, Nat.le_refl _, hmap, hM⟩

end Go.Proofs.Qxb6600445a
