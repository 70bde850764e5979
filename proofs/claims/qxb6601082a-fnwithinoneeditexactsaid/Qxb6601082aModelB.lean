import Derived.Test.Qxb6601082aModelA
namespace Go.Proofs.Qxb6601082a
open Go.RowKit

set_option maxHeartbeats 1000000 in
theorem model_long (a1 a2 : Option Addr) (n c1 m c2 : Nat) (f g : Nat → Int) (w : World) (h1 : Sl w a1 n c1 f) (h2 : Sl w a2 m c2 g) (hlo : m < n) (hhi : n ≤ m + 1) :
    Calls Try.prog 21 #[.slice a1 n c1, .slice a2 m c2] w fun e w' => OE e n f m g ∧ Drawn w w' := by
  obtain ⟨p1, p2, p3⟩ := h1
  obtain ⟨q1, q2, q3⟩ := h2
  have hne : ((n : Int) == (m : Int)) = false := by simp; omega
  have hsw : ¬ (n : Int) < (m : Int) := by omega
  have hd : (((n : Int) - (m : Int)) != 1) = false := by simp; omega
  go_enter Try.func21, Try.ntmps21
  go_wp2
  go_loopw [11] (fun i wr => ∃ k q : Nat, k ≤ m ∧ i = .int .i64 k ∧ wr = w.drewN q ∧ Hid (∀ j, j < k → g j = f j)) (fun i _ => m - (intOf i).toNat)
  case atStart => exact ⟨0, 0, Nat.zero_le _, rfl, rfl, fun j hj => by omega⟩
  case round =>
    obtain ⟨k, q, hk, rfl, rfl, HE⟩ := hrel
    by_cases hcase : k < m ∧ g k = f k
    · obtain ⟨hlt, he⟩ := hcase
      rcases p3 with p3 | ⟨B1, o1, rfl, k1⟩
      · omega
      rcases q3 with q3 | ⟨B2, o2, rfl, k2⟩
      · omega
      have g1 := k1 k (by omega)
      have g2 := k2 k (by omega)
      have hlt' : (k : Int) < m := by omega
      have hltm' : (k : Int) < n := by omega
      have hfg : (g k == f k) = true := by simpa using he
      have HE2 : Hid (∀ j, j < k + 1 → g j = f j) := fun j hj => by
        by_cases e : j = k
        · subst e; exact he
        · exact HE.out j (by omega)
      clear he k1 k2
      go_wp2
      go_quiet (fail)
      go_wp2
      go_roundw
      case rel => exact ⟨k + 1, q + nq, by omega, by go_num, by simp, HE2⟩
      case measure => simp [intOf]; omega
    · have HP : Hid (k = m ∨ g k ≠ f k) := by
        by_cases e : k = m
        · exact .inl e
        · exact .inr (fun he => hcase ⟨by omega, he⟩)
      clear hcase
      by_cases hlt : k < m
      · have hfg : (g k == f k) = false := by
          rcases HP.out with h | h
          · omega
          · simpa using h
        rcases p3 with p3 | ⟨B1, o1, rfl, k1⟩
        · omega
        rcases q3 with q3 | ⟨B2, o2, rfl, k2⟩
        · omega
        have g1 := k1 k (by omega)
        have g2 := k2 k (by omega)
        have hlt' : (k : Int) < m := by omega
        have hltm' : (k : Int) < n := by omega
        go_wp2
        go_quiet (fail)
        go_wp2
        clear g1 g2 hlt' hltm'
        go_loopw [12] (fun i wr => ∃ l q : Nat, l ≤ m ∧ i = .int .i64 l ∧ wr = w.drewN q ∧ Hid (∀ j, j < l → g (m - 1 - j) = f (n - 1 - j))) (fun i _ => m - (intOf i).toNat)
        case atStart => exact ⟨0, q + nq, Nat.zero_le _, rfl, by first | rfl | simp, fun j hj => by omega⟩
        case round =>
          obtain ⟨l, ql, hl, rfl, rfl, HL⟩ := hrel
          by_cases hcase : l < m ∧ g (m - 1 - l) = f (n - 1 - l)
          · obtain ⟨hlt2, he⟩ := hcase
            have g1 := k1 (n - 1 - l) (by omega)
            have g2 := k2 (m - 1 - l) (by omega)
            have hlt' : (l : Int) < m := by omega
            have hfg : (g (m - 1 - l) == f (n - 1 - l)) = true := by simpa using he
            have HL2 : Hid (∀ j, j < l + 1 → g (m - 1 - j) = f (n - 1 - j)) := fun j hj => by
              by_cases e : j = l
              · subst e; exact he
              · exact HL.out j (by omega)
            clear he k1 k2
            go_wp2
            go_quiet (fail)
            go_wp2
            go_roundw
            case rel => exact ⟨l + 1, ql + nq, by omega, by go_num, by simp, HL2⟩
            case measure => simp [intOf]; omega
          · have HQ : Hid (l = m ∨ g (m - 1 - l) ≠ f (n - 1 - l)) := by
              by_cases e : l = m
              · exact .inl e
              · exact .inr (fun he => hcase ⟨by omega, he⟩)
            clear hcase
            have HF : Hid (m ≤ k + l ↔ OneEdit n f m g) := by
              obtain rfl : n = m + 1 := by omega
              rw [oneEdit_comm]
              refine oneEdit_cover hk hl HE.out HP.out (fun j hj => ?_) ?_
              · have := HL.out j hj
                rw [show m + 1 - 1 - j = m - j by omega] at this
                exact this
              · have := HQ.out
                rw [show m + 1 - 1 - l = m - l by omega] at this
                exact this
            by_cases hlt2 : l < m
            · have hfg : (g (m - 1 - l) == f (n - 1 - l)) = false := by
                rcases HQ.out with h | h
                · omega
                · simpa using h
              have g1 := k1 (n - 1 - l) (by omega)
              have g2 := k2 (m - 1 - l) (by omega)
              have hlt' : (l : Int) < m := by omega
              clear k1 k2
              go_wp2
              go_quiet (fail)
              go_wp2
              go_ret
              exact ⟨⟨_, rfl, by rw [← HF.out]; simp; omega⟩, by first | exact Drawn.one _ _ | exact Drawn.two _ _ _ | exact Drawn.three _ _ _ _⟩
            · have hlt' : decide ((l : Int) < (m : Int)) = false := by simp; omega
              go_wp2
              go_quiet (fail)
              go_wp2
              go_ret
              exact ⟨⟨_, rfl, by rw [← HF.out]; simp; omega⟩, by first | exact Drawn.one _ _ | exact Drawn.two _ _ _ | exact Drawn.three _ _ _ _⟩
      · have hlt' : decide ((k : Int) < (m : Int)) = false := by simp; omega
        go_wp2
        go_quiet (fail)
        go_wp2
        clear hlt'
        go_loopw [12] (fun i wr => ∃ l q : Nat, l ≤ m ∧ i = .int .i64 l ∧ wr = w.drewN q ∧ Hid (∀ j, j < l → g (m - 1 - j) = f (n - 1 - j))) (fun i _ => m - (intOf i).toNat)
        case atStart => exact ⟨0, q + nq, Nat.zero_le _, rfl, by first | rfl | simp, fun j hj => by omega⟩
        case round =>
          obtain ⟨l, ql, hl, rfl, rfl, HL⟩ := hrel
          by_cases hcase : l < m ∧ g (m - 1 - l) = f (n - 1 - l)
          · obtain ⟨hlt2, he⟩ := hcase
            rcases p3 with p3 | ⟨B1, o1, rfl, k1⟩
            · omega
            rcases q3 with q3 | ⟨B2, o2, rfl, k2⟩
            · omega
            have g1 := k1 (n - 1 - l) (by omega)
            have g2 := k2 (m - 1 - l) (by omega)
            have hlt' : (l : Int) < m := by omega
            have hfg : (g (m - 1 - l) == f (n - 1 - l)) = true := by simpa using he
            have HL2 : Hid (∀ j, j < l + 1 → g (m - 1 - j) = f (n - 1 - j)) := fun j hj => by
              by_cases e : j = l
              · subst e; exact he
              · exact HL.out j (by omega)
            clear he k1 k2
            go_wp2
            go_quiet (fail)
            go_wp2
            go_roundw
            case rel => exact ⟨l + 1, ql + nq, by omega, by go_num, by simp, HL2⟩
            case measure => simp [intOf]; omega
          · have HQ : Hid (l = m ∨ g (m - 1 - l) ≠ f (n - 1 - l)) := by
              by_cases e : l = m
              · exact .inl e
              · exact .inr (fun he => hcase ⟨by omega, he⟩)
            clear hcase
            have HF : Hid (m ≤ k + l ↔ OneEdit n f m g) := by
              obtain rfl : n = m + 1 := by omega
              rw [oneEdit_comm]
              refine oneEdit_cover hk hl HE.out HP.out (fun j hj => ?_) ?_
              · have := HL.out j hj
                rw [show m + 1 - 1 - j = m - j by omega] at this
                exact this
              · have := HQ.out
                rw [show m + 1 - 1 - l = m - l by omega] at this
                exact this
            by_cases hlt2 : l < m
            · have hfg : (g (m - 1 - l) == f (n - 1 - l)) = false := by
                rcases HQ.out with h | h
                · omega
                · simpa using h
              rcases p3 with p3 | ⟨B1, o1, rfl, k1⟩
              · omega
              rcases q3 with q3 | ⟨B2, o2, rfl, k2⟩
              · omega
              have g1 := k1 (n - 1 - l) (by omega)
              have g2 := k2 (m - 1 - l) (by omega)
              have hlt' : (l : Int) < m := by omega
              clear k1 k2
              go_wp2
              go_quiet (fail)
              go_wp2
              go_ret
              exact ⟨⟨_, rfl, by rw [← HF.out]; simp; omega⟩, by first | exact Drawn.one _ _ | exact Drawn.two _ _ _ | exact Drawn.three _ _ _ _⟩
            · have hlt' : decide ((l : Int) < (m : Int)) = false := by simp; omega
              go_wp2
              go_quiet (fail)
              go_wp2
              go_ret
              exact ⟨⟨_, rfl, by rw [← HF.out]; simp; omega⟩, by first | exact Drawn.one _ _ | exact Drawn.two _ _ _ | exact Drawn.three _ _ _ _⟩

set_option maxHeartbeats 1000000 in
theorem model_short (a1 a2 : Option Addr) (n c1 m c2 : Nat) (f g : Nat → Int) (w : World) (h1 : Sl w a1 n c1 f) (h2 : Sl w a2 m c2 g) (hlo : n < m) (hhi : m ≤ n + 1) :
    Calls Try.prog 21 #[.slice a1 n c1, .slice a2 m c2] w fun e w' => OE e n f m g ∧ Drawn w w' := by
  obtain ⟨p1, p2, p3⟩ := h1
  obtain ⟨q1, q2, q3⟩ := h2
  have hne : ((n : Int) == (m : Int)) = false := by simp; omega
  have hsw : (n : Int) < (m : Int) := by omega
  have hd : (((m : Int) - (n : Int)) != 1) = false := by simp; omega
  go_enter Try.func21, Try.ntmps21
  go_wp2
  go_loopw [11] (fun i wr => ∃ k q : Nat, k ≤ n ∧ i = .int .i64 k ∧ wr = w.drewN q ∧ Hid (∀ j, j < k → f j = g j)) (fun i _ => n - (intOf i).toNat)
  case atStart => exact ⟨0, 0, Nat.zero_le _, rfl, rfl, fun j hj => by omega⟩
  case round =>
    obtain ⟨k, q, hk, rfl, rfl, HE⟩ := hrel
    by_cases hcase : k < n ∧ f k = g k
    · obtain ⟨hlt, he⟩ := hcase
      rcases p3 with p3 | ⟨B1, o1, rfl, k1⟩
      · omega
      rcases q3 with q3 | ⟨B2, o2, rfl, k2⟩
      · omega
      have g1 := k1 k (by omega)
      have g2 := k2 k (by omega)
      have hlt' : (k : Int) < n := by omega
      have hltm' : (k : Int) < m := by omega
      have hfg : (f k == g k) = true := by simpa using he
      have HE2 : Hid (∀ j, j < k + 1 → f j = g j) := fun j hj => by
        by_cases e : j = k
        · subst e; exact he
        · exact HE.out j (by omega)
      clear he k1 k2
      go_wp2
      go_quiet (fail)
      go_wp2
      go_roundw
      case rel => exact ⟨k + 1, q + nq, by omega, by go_num, by simp, HE2⟩
      case measure => simp [intOf]; omega
    · have HP : Hid (k = n ∨ f k ≠ g k) := by
        by_cases e : k = n
        · exact .inl e
        · exact .inr (fun he => hcase ⟨by omega, he⟩)
      clear hcase
      by_cases hlt : k < n
      · have hfg : (f k == g k) = false := by
          rcases HP.out with h | h
          · omega
          · simpa using h
        rcases p3 with p3 | ⟨B1, o1, rfl, k1⟩
        · omega
        rcases q3 with q3 | ⟨B2, o2, rfl, k2⟩
        · omega
        have g1 := k1 k (by omega)
        have g2 := k2 k (by omega)
        have hlt' : (k : Int) < n := by omega
        have hltm' : (k : Int) < m := by omega
        go_wp2
        go_quiet (fail)
        go_wp2
        clear g1 g2 hlt' hltm'
        go_loopw [12] (fun i wr => ∃ l q : Nat, l ≤ n ∧ i = .int .i64 l ∧ wr = w.drewN q ∧ Hid (∀ j, j < l → f (n - 1 - j) = g (m - 1 - j))) (fun i _ => n - (intOf i).toNat)
        case atStart => exact ⟨0, q + nq, Nat.zero_le _, rfl, by first | rfl | simp, fun j hj => by omega⟩
        case round =>
          obtain ⟨l, ql, hl, rfl, rfl, HL⟩ := hrel
          by_cases hcase : l < n ∧ f (n - 1 - l) = g (m - 1 - l)
          · obtain ⟨hlt2, he⟩ := hcase
            have g1 := k1 (n - 1 - l) (by omega)
            have g2 := k2 (m - 1 - l) (by omega)
            have hlt' : (l : Int) < n := by omega
            have hfg : (f (n - 1 - l) == g (m - 1 - l)) = true := by simpa using he
            have HL2 : Hid (∀ j, j < l + 1 → f (n - 1 - j) = g (m - 1 - j)) := fun j hj => by
              by_cases e : j = l
              · subst e; exact he
              · exact HL.out j (by omega)
            clear he k1 k2
            go_wp2
            go_quiet (fail)
            go_wp2
            go_roundw
            case rel => exact ⟨l + 1, ql + nq, by omega, by go_num, by simp, HL2⟩
            case measure => simp [intOf]; omega
          · have HQ : Hid (l = n ∨ f (n - 1 - l) ≠ g (m - 1 - l)) := by
              by_cases e : l = n
              · exact .inl e
              · exact .inr (fun he => hcase ⟨by omega, he⟩)
            clear hcase
            have HF : Hid (n ≤ k + l ↔ OneEdit n f m g) := by
              obtain rfl : m = n + 1 := by omega
              refine oneEdit_cover hk hl HE.out HP.out (fun j hj => ?_) ?_
              · have := HL.out j hj
                rw [show n + 1 - 1 - j = n - j by omega] at this
                exact this
              · have := HQ.out
                rw [show n + 1 - 1 - l = n - l by omega] at this
                exact this
            by_cases hlt2 : l < n
            · have hfg : (f (n - 1 - l) == g (m - 1 - l)) = false := by
                rcases HQ.out with h | h
                · omega
                · simpa using h
              have g1 := k1 (n - 1 - l) (by omega)
              have g2 := k2 (m - 1 - l) (by omega)
              have hlt' : (l : Int) < n := by omega
              clear k1 k2
              go_wp2
              go_quiet (fail)
              go_wp2
              go_ret
              exact ⟨⟨_, rfl, by rw [← HF.out]; simp; omega⟩, by first | exact Drawn.one _ _ | exact Drawn.two _ _ _ | exact Drawn.three _ _ _ _⟩
            · have hlt' : decide ((l : Int) < (n : Int)) = false := by simp; omega
              go_wp2
              go_quiet (fail)
              go_wp2
              go_ret
              exact ⟨⟨_, rfl, by rw [← HF.out]; simp; omega⟩, by first | exact Drawn.one _ _ | exact Drawn.two _ _ _ | exact Drawn.three _ _ _ _⟩
      · have hlt' : decide ((k : Int) < (n : Int)) = false := by simp; omega
        go_wp2
        go_quiet (fail)
        go_wp2
        clear hlt'
        go_loopw [12] (fun i wr => ∃ l q : Nat, l ≤ n ∧ i = .int .i64 l ∧ wr = w.drewN q ∧ Hid (∀ j, j < l → f (n - 1 - j) = g (m - 1 - j))) (fun i _ => n - (intOf i).toNat)
        case atStart => exact ⟨0, q + nq, Nat.zero_le _, rfl, by first | rfl | simp, fun j hj => by omega⟩
        case round =>
          obtain ⟨l, ql, hl, rfl, rfl, HL⟩ := hrel
          by_cases hcase : l < n ∧ f (n - 1 - l) = g (m - 1 - l)
          · obtain ⟨hlt2, he⟩ := hcase
            rcases p3 with p3 | ⟨B1, o1, rfl, k1⟩
            · omega
            rcases q3 with q3 | ⟨B2, o2, rfl, k2⟩
            · omega
            have g1 := k1 (n - 1 - l) (by omega)
            have g2 := k2 (m - 1 - l) (by omega)
            have hlt' : (l : Int) < n := by omega
            have hfg : (f (n - 1 - l) == g (m - 1 - l)) = true := by simpa using he
            have HL2 : Hid (∀ j, j < l + 1 → f (n - 1 - j) = g (m - 1 - j)) := fun j hj => by
              by_cases e : j = l
              · subst e; exact he
              · exact HL.out j (by omega)
            clear he k1 k2
            go_wp2
            go_quiet (fail)
            go_wp2
            go_roundw
            case rel => exact ⟨l + 1, ql + nq, by omega, by go_num, by simp, HL2⟩
            case measure => simp [intOf]; omega
          · have HQ : Hid (l = n ∨ f (n - 1 - l) ≠ g (m - 1 - l)) := by
              by_cases e : l = n
              · exact .inl e
              · exact .inr (fun he => hcase ⟨by omega, he⟩)
            clear hcase
            have HF : Hid (n ≤ k + l ↔ OneEdit n f m g) := by
              obtain rfl : m = n + 1 := by omega
              refine oneEdit_cover hk hl HE.out HP.out (fun j hj => ?_) ?_
              · have := HL.out j hj
                rw [show n + 1 - 1 - j = n - j by omega] at this
                exact this
              · have := HQ.out
                rw [show n + 1 - 1 - l = n - l by omega] at this
                exact this
            by_cases hlt2 : l < n
            · have hfg : (f (n - 1 - l) == g (m - 1 - l)) = false := by
                rcases HQ.out with h | h
                · omega
                · simpa using h
              rcases p3 with p3 | ⟨B1, o1, rfl, k1⟩
              · omega
              rcases q3 with q3 | ⟨B2, o2, rfl, k2⟩
              · omega
              have g1 := k1 (n - 1 - l) (by omega)
              have g2 := k2 (m - 1 - l) (by omega)
              have hlt' : (l : Int) < n := by omega
              clear k1 k2
              go_wp2
              go_quiet (fail)
              go_wp2
              go_ret
              exact ⟨⟨_, rfl, by rw [← HF.out]; simp; omega⟩, by first | exact Drawn.one _ _ | exact Drawn.two _ _ _ | exact Drawn.three _ _ _ _⟩
            · have hlt' : decide ((l : Int) < (n : Int)) = false := by simp; omega
              go_wp2
              go_quiet (fail)
              go_wp2
              go_ret
              exact ⟨⟨_, rfl, by rw [← HF.out]; simp; omega⟩, by first | exact Drawn.one _ _ | exact Drawn.two _ _ _ | exact Drawn.three _ _ _ _⟩

end Go.Proofs.Qxb6601082a
