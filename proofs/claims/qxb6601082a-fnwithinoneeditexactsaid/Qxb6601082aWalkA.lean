import Derived.Test.Qxb6601082aRows
import Derived.Test.Qxb6601082aPlain
import Derived.WalkKit
import Derived.Below
import Derived.Deep.QuietTactic
import Derived.BigQuiet
import Derived.WalkLawsBesides
import Derived.WalkSpells
import Derived.Deep.OwnRows
import Derived.OpenShut
namespace Go.Proofs.Qxb6601082a
open Go.RowKit

/-- A slice of runes: n elements, element i is f i. -/
def Sl (w : World) (a : Option Addr) (n c : Nat) (f : Nat → Int) : Prop :=
  n ≤ c ∧ c ≤ 100000 ∧ (n = 0 ∨ ∃ B o, a = some ⟨B, o, none⟩ ∧ ∀ i, i < n → w.cell? ⟨B, o + i, none⟩ = some (.int .i32 (f i)))

theorem Sl.drewN {w : World} {a : Option Addr} {n c : Nat} {f : Nat → Int} (h : Sl w a n c f) (q : Nat) : Sl (w.drewN q) a n c f := by
  obtain ⟨h1, h2, h3⟩ := h
  refine ⟨h1, h2, ?_⟩
  rcases h3 with h3 | ⟨B, o, e, h3⟩
  · exact .inl h3
  · exact .inr ⟨B, o, e, fun i hi => by have := h3 i hi; go_simp⟩

/-- What was there stays. -/
theorem Sl.below {w w' : World} {a : Option Addr} {n c : Nat} {f : Nat → Int} (h : Sl w a n c f) (hb : Below w.heap.size w w') : Sl w' a n c f := by
  obtain ⟨h1, h2, h3⟩ := h
  refine ⟨h1, h2, ?_⟩
  rcases h3 with h3 | ⟨B, o, e, h3⟩
  · exact .inl h3
  · refine .inr ⟨B, o, e, fun i hi => ?_⟩
    rw [hb.cell (p := ⟨B, o + i, none⟩) (World.block_lt_of_cell? _ _ (h3 i hi))]
    exact h3 i hi

/-- s[i:] as the model writes it. -/
theorem Sl.drop {w : World} {a : Option Addr} {n c : Nat} {f : Nat → Int} (h : Sl w a n c f) (i : Nat) (hi : i ≤ n) (a' : Option Addr) (ha : a' = a ∧ i = c ∨ a' = a.map (fun x => x.add i)) :
    Sl w a' (n - i) (c - i) (fun j => f (i + j)) := by
  obtain ⟨h1, h2, h3⟩ := h
  refine ⟨by omega, by omega, ?_⟩
  rcases Nat.eq_zero_or_pos (n - i) with h0 | h0
  · exact .inl h0
  · rcases h3 with h3 | ⟨B, o, rfl, h3⟩
    · omega
    · rcases ha with ⟨_, ha⟩ | ha
      · omega
      · refine .inr ⟨B, o + i, ?_, fun j hj => ?_⟩
        · rw [ha]
          simp only [Option.map_some, Addr.add]
          split
          · next e => subst e; rfl
          · rfl
        · rw [show o + i + j = o + (i + j) by omega]
          exact h3 (i + j) (by omega)

set_option maxHeartbeats 400000 in
theorem equal_any (a1 a2 : Option Addr) (n1 c1 n2 c2 : Nat) (f g : Nat → Int) (w : World) (h1 : Sl w a1 n1 c1 f) (h2 : Sl w a2 n2 c2 g) :
    Calls Try.prog 26 #[.slice a1 n1 c1, .slice a2 n2 c2] w fun e w' => e = .returned (.bool (decide (n1 = n2) && eqN f g n1)) ∧ ∃ q, w' = w.drewN q := by
  obtain ⟨p1, p2, p3⟩ := h1
  obtain ⟨q1, q2, q3⟩ := h2
  by_cases hn : n1 = n2
  · subst hn
    rcases p3 with rfl | ⟨B1, o1, rfl, k1⟩
    · go_enter Try.func26, Try.ntmps26
      go_wp2
      go_loop [13] (fun i => i = .int .i64 0) (fun _ => 0)
      case atStart => rfl
      case round =>
        subst hrel
        go_wp2
        go_ret
        exact ⟨rfl, 0, rfl⟩
    · rcases q3 with rfl | ⟨B2, o2, rfl, k2⟩
      · go_enter Try.func26, Try.ntmps26
        go_wp2
        go_loop [13] (fun i => i = .int .i64 0) (fun _ => 0)
        case atStart => rfl
        case round =>
          subst hrel
          go_wp2
          go_ret
          exact ⟨rfl, 0, rfl⟩
      · go_enter Try.func26, Try.ntmps26
        go_wp2
        go_loopw [13] (fun i wr => ∃ k q : Nat, k ≤ n1 ∧ i = .int .i64 k ∧ Hid (eqN f g k = true) ∧ wr = w.drewN q) (fun i _ => n1 - (intOf i).toNat)
        case atStart => exact ⟨0, 0, Nat.zero_le _, rfl, rfl, rfl⟩
        case round =>
          obtain ⟨k, q, hk, rfl, HE, rfl⟩ := hrel
          by_cases hlt : k < n1
          · have g1 := k1 k hlt
            have g2 := k2 k hlt
            by_cases he : f k = g k
            · have hne : (f k != g k) = false := by simpa using he
              have HE2 : Hid (eqN f g (k + 1) = true) := by
                show (eqN f g k && (f k == g k)) = true
                rw [HE.out]; simpa using he
              clear he
              go_wp2
              go_quiet (fail)
              go_wp2
              go_roundw
              case rel => exact ⟨k + 1, q + nq, by omega, by go_num, HE2, by simp⟩
              case measure => simp [intOf]; omega
            · have hne : (f k != g k) = true := by simpa using he
              have HE2 : Hid (eqN f g n1 = false) := eqN_false f g n1 k hlt he
              clear he
              go_wp2
              go_quiet (fail)
              go_wp2
              go_ret
              exact ⟨by rw [HE2.out]; simp, q + nq, by simp⟩
          · obtain rfl : k = n1 := by omega
            go_wp2
            go_ret
            exact ⟨by rw [HE.out]; simp, q, rfl⟩
  · have hn' : ((n1 : Int) == (n2 : Int)) = false := by simp; omega
    go_enter Try.func26, Try.ntmps26
    go_wp2
    go_ret
    exact ⟨by simp [hn], 0, rfl⟩

end Go.Proofs.Qxb6601082a
