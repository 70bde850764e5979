import Derived.Test.Qxb6601082aWalkB
namespace Go.Proofs.Qxb6601082a
open Go.RowKit

set_option maxHeartbeats 1000000 in
theorem within_gt (a1 a2 : Option Addr) (n c1 m c2 : Nat) (f g : Nat → Int) (w : World) (h1 : Sl w a1 n c1 f) (h2 : Sl w a2 m c2 g) (hnm : m < n) (hmn : n ≤ m + 1) :
    Calls Try.prog 20 #[.slice a1 n c1, .slice a2 m c2] w fun e w' => OE e n f m g ∧ Drawn w w' := by
  obtain ⟨p1, p2, p3⟩ := h1
  obtain ⟨q1, q2, q3⟩ := h2
  have hsw : (m : Int) < (n : Int) := by omega
  have hd1 : ¬ (1 : Int) < (n : Int) - (m : Int) := by omega
  go_enter Try.func20, Try.ntmps20
  go_wp2
  go_loopw [7] (fun i wr => ∃ k q : Nat, k ≤ m ∧ i = .int .i64 k ∧ Hid (∀ j, j < k → g j = f j) ∧ wr = w.drewN q) (fun i _ => m - (intOf i).toNat)
  case atStart => exact ⟨0, 0, Nat.zero_le _, rfl, fun j hj => by omega, rfl⟩
  case round =>
    obtain ⟨k, q, hk, rfl, HE, rfl⟩ := hrel
    by_cases hlt : k < m
    · rcases p3 with p3 | ⟨B1, o1, rfl, k1⟩
      · omega
      rcases q3 with q3 | ⟨B2, o2, rfl, k2⟩
      · omega
      have g1 := k1 k (by omega)
      have g2 := k2 k hlt
      have hlt' : (k : Int) < m := by omega
      have hltm' : (k : Int) < n := by omega
      by_cases he : g k = f k
      · have hfg : (g k == f k) = true := by simpa using he
        have HE2 : Hid (∀ j, j < k + 1 → g j = f j) := fun j hj => by
          by_cases e : j = k
          · subst e; exact he
          · exact HE.out j (by omega)
        clear he k1 k2
        go_wp2
        go_quiet (fail)
        go_wp2
        go_roundw
        case rel => exact ⟨k + 1, q + nq, by omega, by go_num, HE2, by simp⟩
        case measure => simp [intOf]; omega
      · have hfg : (g k == f k) = false := by simpa using he
        have HN : Hid (g k ≠ f k) := he
        clear he
        have hkn : ((k : Int) == (m : Int)) = false := by simp; omega
        have hc1 : ¬ c2 = k := by omega
        have hc2 : ¬ c1 = k + 1 := by omega
        have hm0 : (k : Int) + 1 ≤ n := by omega
        have S1 : Hid (Sl w (some ⟨B2, o2 + k, none⟩) (m - k) (c2 - k) (fun j => g (k + j))) := Sl.from k2 q1 q2 k (by omega)
        have S2 : Hid (Sl w (some ⟨B1, o1 + (k + 1), none⟩) (n - (k + 1)) (c1 - (k + 1)) (fun j => f (k + 1 + j))) := Sl.from k1 p1 p2 (k + 1) (by omega)
        clear k1 k2
        go_wp2
        go_quiet (fail)
        go_wp2
        go_quiet ((go_at_call 26; exact quiet_eq S1.out S2.out _ _))
        go_wp2
        go_ret
        refine ⟨⟨_, rfl, ?_⟩, by first | exact Drawn.one _ _ | exact Drawn.two _ _ _ | exact Drawn.three _ _ _ _⟩
        obtain rfl : n = m + 1 := by omega
        rw [oneEdit_comm]
        have e : (decide (m - k = m + 1 - (k + 1)) && eqN (fun j => g (k + j)) (fun j => f (k + 1 + j)) (m - k)) = eqN (fun j => g (k + j)) (fun j => f (k + 1 + j)) (m - k) := by
          rw [decide_eq_true (by omega)]; rfl
        show (decide (m - k = m + 1 - (k + 1)) && eqN (fun j => g (k + j)) (fun j => f (k + 1 + j)) (m - k)) = true ↔ _
        rw [e]
        exact oneEdit_drop hlt HE.out HN.out
    · have hlt' : decide ((k : Int) < (m : Int)) = false := by simp; omega
      obtain rfl : k = m := by omega
      go_wp2
      go_quiet (fail)
      go_wp2
      go_ret
      exact ⟨⟨true, rfl, ⟨fun _ => (oneEdit_prefix (by omega) hmn HE.out).symm, fun _ => rfl⟩⟩, by first | exact Drawn.one _ _ | exact Drawn.two _ _ _ | exact Drawn.three _ _ _ _⟩

set_option maxHeartbeats 400000 in
theorem within_far1 (a1 a2 : Option Addr) (n c1 m c2 : Nat) (f g : Nat → Int) (w : World) (hn : n ≤ 100000) (hm : m ≤ 100000) (h : n + 1 < m) :
    Calls Try.prog 20 #[.slice a1 n c1, .slice a2 m c2] w fun e w' => OE e n f m g ∧ Drawn w w' := by
  have hsw : ¬ (m : Int) < (n : Int) := by omega
  have hd1 : (1 : Int) < (m : Int) - (n : Int) := by omega
  go_enter Try.func20, Try.ntmps20
  go_wp2
  go_ret
  exact ⟨⟨false, rfl, ⟨fun h => (by cases h), fun h' => absurd h' (oneEdit_far h)⟩⟩, 0, rfl⟩

set_option maxHeartbeats 400000 in
theorem within_far2 (a1 a2 : Option Addr) (n c1 m c2 : Nat) (f g : Nat → Int) (w : World) (hn : n ≤ 100000) (hm : m ≤ 100000) (h : m + 1 < n) :
    Calls Try.prog 20 #[.slice a1 n c1, .slice a2 m c2] w fun e w' => OE e n f m g ∧ Drawn w w' := by
  have hsw : (m : Int) < (n : Int) := by omega
  have hd1 : (1 : Int) < (n : Int) - (m : Int) := by omega
  go_enter Try.func20, Try.ntmps20
  go_wp2
  go_ret
  exact ⟨⟨false, rfl, ⟨fun h => (by cases h), fun h' => absurd h'.symm (oneEdit_far h)⟩⟩, 0, rfl⟩

/-- WithinOneEdit answers whether the two are within one edit, and only reads. -/
theorem within_any (a1 a2 : Option Addr) (n c1 m c2 : Nat) (f g : Nat → Int) (w : World) (h1 : Sl w a1 n c1 f) (h2 : Sl w a2 m c2 g) :
    Calls Try.prog 20 #[.slice a1 n c1, .slice a2 m c2] w fun e w' => OE e n f m g ∧ Drawn w w' := by
  have b1 : n ≤ 100000 := Nat.le_trans h1.1 h1.2.1
  have b2 : m ≤ 100000 := Nat.le_trans h2.1 h2.2.1
  by_cases e1 : n ≤ m
  · by_cases e2 : m ≤ n + 1
    · exact within_le a1 a2 n c1 m c2 f g w h1 h2 e1 e2
    · exact within_far1 a1 a2 n c1 m c2 f g w b1 b2 (by omega)
  · by_cases e2 : n ≤ m + 1
    · exact within_gt a1 a2 n c1 m c2 f g w h1 h2 (by omega) e2
    · exact within_far2 a1 a2 n c1 m c2 f g w b1 b2 (by omega)

end Go.Proofs.Qxb6601082a
