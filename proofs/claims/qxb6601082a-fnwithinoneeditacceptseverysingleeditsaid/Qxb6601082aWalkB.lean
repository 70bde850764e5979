import Derived.Test.Qxb6601082aWalkA
namespace Go.Proofs.Qxb6601082a
open Go.RowKit

theorem Sl.from {w : World} {B o n c : Nat} {f : Nat → Int} (h : ∀ i, i < n → w.cell? ⟨B, o + i, none⟩ = some (.int .i32 (f i))) (hn : n ≤ c) (hc : c ≤ 100000) (i : Nat) (hi : i ≤ n) :
    Sl w (some ⟨B, o + i, none⟩) (n - i) (c - i) (fun j => f (i + j)) :=
  ⟨by omega, by omega, .inr ⟨B, o + i, rfl, fun j hj => by rw [show o + i + j = o + (i + j) by omega]; exact h (i + j) (by omega)⟩⟩

theorem Sl.fromIf {w : World} {B o n c : Nat} {f : Nat → Int} (h : ∀ i, i < n → w.cell? ⟨B, o + i, none⟩ = some (.int .i32 (f i))) (hn : n ≤ c) (hc : c ≤ 100000) (i : Nat) (hi : i ≤ n) :
    Sl w (if c = i then some ⟨B, o, none⟩ else some ⟨B, o + i, none⟩) (n - i) (c - i) (fun j => f (i + j)) := by
  split
  · next e => exact ⟨by omega, by omega, .inl (by omega)⟩
  · exact Sl.from h hn hc i hi

theorem ddn (w : World) (a b : Nat) : (w.drewN a).drewN b = w.drewN (a + b) := by simp

theorem Sl.none {w : World} {a : Option Addr} {c : Nat} {f : Nat → Int} (hc : c ≤ 100000) : Sl w a 0 c f := ⟨Nat.zero_le _, hc, .inl rfl⟩

/-- It answered whether the two are within one edit. -/
def OE (e : Ending) (n : Nat) (f : Nat → Int) (m : Nat) (g : Nat → Int) : Prop := ∃ b : Bool, e = .returned (.bool b) ∧ (b = true ↔ OneEdit n f m g)

/-- Only draws. -/
def Drawn (w w' : World) : Prop := ∃ q, w' = w.drewN q

theorem Drawn.one (w : World) (q : Nat) : Drawn w (w.drewN q) := ⟨q, rfl⟩
theorem Drawn.two (w : World) (q r : Nat) : Drawn w ((w.drewN q).drewN r) := ⟨q + r, by simp⟩
theorem Drawn.three (w : World) (q r t : Nat) : Drawn w (((w.drewN q).drewN r).drewN t) := ⟨q + r + t, by simp⟩

theorem quiet_eq {a1 a2 : Option Addr} {n1 c1 n2 c2 : Nat} {f g : Nat → Int} {w : World} (h1 : Sl w a1 n1 c1 f) (h2 : Sl w a2 n2 c2 g) (Q x : Nat) :
    Calls Try.prog 26 #[.slice a1 n1 c1, .slice a2 n2 c2] (w.drewN (Q + x)) fun e w'' => e = .returned (.bool (decide (n1 = n2) && eqN f g n1)) ∧ ∃ n, w'' = w.drewN (Q + n) :=
  (equal_any a1 a2 n1 c1 n2 c2 f g _ (h1.drewN (Q + x)) (h2.drewN (Q + x))).mono fun _ _ ⟨he, q, hq⟩ => ⟨he, x + q, by rw [hq]; simp [Nat.add_assoc]⟩

set_option maxHeartbeats 1000000 in
theorem within_le (a1 a2 : Option Addr) (n c1 m c2 : Nat) (f g : Nat → Int) (w : World) (h1 : Sl w a1 n c1 f) (h2 : Sl w a2 m c2 g) (hnm : n ≤ m) (hmn : m ≤ n + 1) :
    Calls Try.prog 20 #[.slice a1 n c1, .slice a2 m c2] w fun e w' => OE e n f m g ∧ Drawn w w' := by
  have H1 : Hid (Sl w a1 n c1 f) := h1
  have H2 : Hid (Sl w a2 m c2 g) := h2
  obtain ⟨p1, p2, p3⟩ := h1
  obtain ⟨q1, q2, q3⟩ := h2
  have hsw : ¬ (m : Int) < (n : Int) := by omega
  have hd1 : ¬ (1 : Int) < (m : Int) - (n : Int) := by omega
  go_enter Try.func20, Try.ntmps20
  go_wp2
  go_loopw [7] (fun i wr => ∃ k q : Nat, k ≤ n ∧ i = .int .i64 k ∧ Hid (∀ j, j < k → f j = g j) ∧ wr = w.drewN q) (fun i _ => n - (intOf i).toNat)
  case atStart => exact ⟨0, 0, Nat.zero_le _, rfl, fun j hj => by omega, rfl⟩
  case round =>
    obtain ⟨k, q, hk, rfl, HE, rfl⟩ := hrel
    by_cases hlt : k < n
    · rcases p3 with p3 | ⟨B1, o1, rfl, k1⟩
      · omega
      rcases q3 with q3 | ⟨B2, o2, rfl, k2⟩
      · omega
      have g1 := k1 k hlt
      have g2 := k2 k (by omega)
      have hlt' : (k : Int) < n := by omega
      have hltm' : (k : Int) < m := by omega
      by_cases he : f k = g k
      · have hfg : (f k == g k) = true := by simpa using he
        have HE2 : Hid (∀ j, j < k + 1 → f j = g j) := fun j hj => by
          by_cases e : j = k
          · subst e; exact he
          · exact HE.out j (by omega)
        clear he k1 k2
        go_wp2
        go_quiet (fail)
        go_wp2
        go_roundw
        case rel => exact ⟨k + 1, q + nq, by omega, by go_num, HE2, by simp⟩
        case measure => simp [intOf]; omega
      · have hfg : (f k == g k) = false := by simpa using he
        have HN : Hid (f k ≠ g k) := he
        clear he
        have hkn : ((k : Int) == (n : Int)) = false := by simp; omega
        by_cases hnm2 : (n : Int) < (m : Int)
        · have hc1 : ¬ c1 = k := by omega
          have hc2 : ¬ c2 = k + 1 := by omega
          have hm0 : (k : Int) + 1 ≤ m := by omega
          have S1 : Hid (Sl w (some ⟨B1, o1 + k, none⟩) (n - k) (c1 - k) (fun j => f (k + j))) := Sl.from k1 p1 p2 k (by omega)
          have S2 : Hid (Sl w (some ⟨B2, o2 + (k + 1), none⟩) (m - (k + 1)) (c2 - (k + 1)) (fun j => g (k + 1 + j))) := Sl.from k2 q1 q2 (k + 1) (by omega)
          clear k1 k2
          go_wp2
          go_quiet (fail)
          go_wp2
          go_quiet ((go_at_call 26; exact quiet_eq S1.out S2.out _ _))
          go_wp2
          go_ret
          refine ⟨⟨_, rfl, ?_⟩, by first | exact Drawn.one _ _ | exact Drawn.two _ _ _ | exact Drawn.three _ _ _ _⟩
          obtain rfl : m = n + 1 := by omega
          have e : (decide (n - k = n + 1 - (k + 1)) && eqN (fun j => f (k + j)) (fun j => g (k + 1 + j)) (n - k)) = eqN (fun j => f (k + j)) (fun j => g (k + 1 + j)) (n - k) := by
            rw [decide_eq_true (by omega)]; rfl
          show (decide (n - k = n + 1 - (k + 1)) && eqN (fun j => f (k + j)) (fun j => g (k + 1 + j)) (n - k)) = true ↔ _
          rw [e]
          exact oneEdit_drop hlt HE.out HN.out
        · obtain rfl : m = n := by omega
          have HS : Hid (OneEdit m f m g ↔ _) := oneEdit_same hlt HE.out HN.out
          by_cases hk1 : k + 1 < m
          · have hk1' : (k : Int) + 1 < m := by omega
            have hk1'' : (k : Int) + 1 ≤ m := by omega
            have hc1 : ¬ c1 = k + 1 := by omega
            have hc2 : ¬ c2 = k + 1 := by omega
            have g3 := k1 (k + 1) hk1
            have g4 := k2 (k + 1) hk1
            have S1 : Hid (Sl w (some ⟨B1, o1 + (k + 1), none⟩) (m - (k + 1)) (c1 - (k + 1)) (fun j => f (k + 1 + j))) := Sl.from k1 p1 p2 (k + 1) (by omega)
            have S2 : Hid (Sl w (some ⟨B2, o2 + (k + 1), none⟩) (m - (k + 1)) (c2 - (k + 1)) (fun j => g (k + 1 + j))) := Sl.from k2 q1 q2 (k + 1) (by omega)
            have S3 : Hid (Sl w (if c1 = k + 2 then some ⟨B1, o1, none⟩ else some ⟨B1, o1 + (k + 2), none⟩) (m - (k + 2)) (c1 - (k + 2)) (fun j => f (k + 2 + j))) := Sl.fromIf k1 p1 p2 (k + 2) (by omega)
            have S4 : Hid (Sl w (if c2 = k + 2 then some ⟨B2, o2, none⟩ else some ⟨B2, o2 + (k + 2), none⟩) (m - (k + 2)) (c2 - (k + 2)) (fun j => g (k + 2 + j))) := Sl.fromIf k2 q1 q2 (k + 2) (by omega)
            clear k1 k2
            cases hC : eqN (fun j => f (k + 1 + j)) (fun j => g (k + 1 + j)) (m - (k + 1)) with
            | true =>
              have HT : Hid (OneEdit m f m g) := HS.out.2 (.inl hC)
              by_cases hs1 : f k = g (k + 1)
              · by_cases hs2 : f (k + 1) = g k
                · have hb1 : (f k == g (k + 1)) = true := by simpa using hs1
                  have hb2 : (f (k + 1) == g k) = true := by simpa using hs2
                  clear hs1 hs2
                  go_wp2
                  go_quiet (fail)
                  go_wp2
                  go_quiet ((go_at_call 26; exact quiet_eq S1.out S2.out _ _))
                  go_wp2
                  go_quiet ((go_at_call 26; exact quiet_eq S3.out S4.out _ _))
                  go_wp2
                  all_goals (
                    go_ret
                    exact ⟨⟨_, rfl, ⟨fun _ => HT.out, fun _ => rfl⟩⟩, by first | exact Drawn.one _ _ | exact Drawn.two _ _ _ | exact Drawn.three _ _ _ _⟩)
                · have hb1 : (f k == g (k + 1)) = true := by simpa using hs1
                  have hb2 : (f (k + 1) == g k) = false := by simpa using hs2
                  clear hs1 hs2
                  go_wp2
                  go_quiet (fail)
                  go_wp2
                  go_quiet ((go_at_call 26; exact quiet_eq S1.out S2.out _ _))
                  go_wp2
                  go_quiet (fail)
                  go_wp2
                  go_ret
                  exact ⟨⟨_, rfl, ⟨fun _ => HT.out, fun _ => rfl⟩⟩, by first | exact Drawn.one _ _ | exact Drawn.two _ _ _ | exact Drawn.three _ _ _ _⟩
              · have hb1 : (f k == g (k + 1)) = false := by simpa using hs1
                clear hs1
                go_wp2
                go_quiet (fail)
                go_wp2
                go_quiet ((go_at_call 26; exact quiet_eq S1.out S2.out _ _))
                go_wp2
                go_quiet (fail)
                go_wp2
                go_ret
                exact ⟨⟨_, rfl, ⟨fun _ => HT.out, fun _ => rfl⟩⟩, by first | exact Drawn.one _ _ | exact Drawn.two _ _ _ | exact Drawn.three _ _ _ _⟩
            | false =>
              have HS' : Hid (OneEdit m f m g ↔ (f k = g (k + 1) ∧ f (k + 1) = g k ∧ eqN (fun j => f (k + 2 + j)) (fun j => g (k + 2 + j)) (m - (k + 2)) = true)) :=
                HS.out.trans ⟨fun h => h.elim (fun h => absurd h (by rw [hC]; decide)) (fun h => h.2), fun h => .inr ⟨hk1, h⟩⟩
              by_cases hs1 : f k = g (k + 1)
              · by_cases hs2 : f (k + 1) = g k
                · have hb1 : (f k == g (k + 1)) = true := by simpa using hs1
                  have hb2 : (f (k + 1) == g k) = true := by simpa using hs2
                  have HB : Hid (f k = g (k + 1) ∧ f (k + 1) = g k) := ⟨hs1, hs2⟩
                  clear hs1 hs2
                  go_wp2
                  go_quiet (fail)
                  go_wp2
                  go_quiet ((go_at_call 26; exact quiet_eq S1.out S2.out _ _))
                  go_wp2
                  go_quiet ((go_at_call 26; exact quiet_eq S3.out S4.out _ _))
                  go_wp2
                  all_goals (
                    go_ret
                    refine ⟨⟨_, rfl, ?_⟩, by first | exact Drawn.one _ _ | exact Drawn.two _ _ _ | exact Drawn.three _ _ _ _⟩
                    rw [HS'.out]
                    simp [HB.out.1, HB.out.2])
                · have hb1 : (f k == g (k + 1)) = true := by simpa using hs1
                  have hb2 : (f (k + 1) == g k) = false := by simpa using hs2
                  have HN2 : Hid (¬ f (k + 1) = g k) := hs2
                  clear hs1 hs2
                  go_wp2
                  go_quiet (fail)
                  go_wp2
                  go_quiet ((go_at_call 26; exact quiet_eq S1.out S2.out _ _))
                  go_wp2
                  go_quiet (fail)
                  go_wp2
                  go_ret
                  exact ⟨⟨_, rfl, ⟨fun h => (by cases h), fun h => absurd (HS'.out.1 h).2.1 HN2.out⟩⟩, by first | exact Drawn.one _ _ | exact Drawn.two _ _ _ | exact Drawn.three _ _ _ _⟩
              · have hb1 : (f k == g (k + 1)) = false := by simpa using hs1
                have HN2 : Hid (¬ f k = g (k + 1)) := hs1
                clear hs1
                go_wp2
                go_quiet (fail)
                go_wp2
                go_quiet ((go_at_call 26; exact quiet_eq S1.out S2.out _ _))
                go_wp2
                go_quiet (fail)
                go_wp2
                go_ret
                exact ⟨⟨_, rfl, ⟨fun h => (by cases h), fun h => absurd (HS'.out.1 h).1 HN2.out⟩⟩, by first | exact Drawn.one _ _ | exact Drawn.two _ _ _ | exact Drawn.three _ _ _ _⟩
          · have hk1' : decide ((k : Int) + 1 < (m : Int)) = false := by simp; omega
            have hk1'' : (k : Int) + 1 ≤ m := by omega
            have S1 : Hid (Sl w (if c1 = k + 1 then some ⟨B1, o1, none⟩ else some ⟨B1, o1 + (k + 1), none⟩) (m - (k + 1)) (c1 - (k + 1)) (fun j => f (k + 1 + j))) := Sl.fromIf k1 p1 p2 (k + 1) (by omega)
            have S2 : Hid (Sl w (if c2 = k + 1 then some ⟨B2, o2, none⟩ else some ⟨B2, o2 + (k + 1), none⟩) (m - (k + 1)) (c2 - (k + 1)) (fun j => g (k + 1 + j))) := Sl.fromIf k2 q1 q2 (k + 1) (by omega)
            have hC : eqN (fun j => f (k + 1 + j)) (fun j => g (k + 1 + j)) (m - (k + 1)) = true := by rw [show m - (k + 1) = 0 by omega]; rfl
            have HT : Hid (OneEdit m f m g) := HS.out.2 (.inl hC)
            clear k1 k2 hk1
            go_wp2
            go_quiet (fail)
            go_wp2
            go_quiet ((go_at_call 26; exact quiet_eq S1.out S2.out _ _))
            go_wp2
            all_goals (
              go_quiet (fail)
              go_wp2
              go_ret
              exact ⟨⟨_, rfl, ⟨fun _ => HT.out, fun _ => rfl⟩⟩, by first | exact Drawn.one _ _ | exact Drawn.two _ _ _ | exact Drawn.three _ _ _ _⟩)
    · have hlt' : decide ((k : Int) < (n : Int)) = false := by simp; omega
      obtain rfl : k = n := by omega
      go_wp2
      go_quiet (fail)
      go_wp2
      go_ret
      exact ⟨⟨true, rfl, ⟨fun _ => oneEdit_prefix hnm hmn HE.out, fun _ => rfl⟩⟩, by first | exact Drawn.one _ _ | exact Drawn.two _ _ _ | exact Drawn.three _ _ _ _⟩

end Go.Proofs.Qxb6601082a
