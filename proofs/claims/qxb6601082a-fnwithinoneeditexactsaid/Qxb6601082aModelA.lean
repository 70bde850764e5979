import Derived.Test.Qxb6601082aSteps
namespace Go.Proofs.Qxb6601082a
open Go.RowKit

/-- The model's count behind k places: none, one at p, two at p and r. -/
def Cnt (f g : Nat → Int) (k : Nat) (cnt fi se : Value) : Prop :=
  (cnt = .int .i64 0 ∧ fi = .int .i64 (-1) ∧ se = .int .i64 (-1) ∧ ∀ j, j < k → f j = g j)
  ∨ (∃ p : Nat, cnt = .int .i64 1 ∧ fi = .int .i64 p ∧ se = .int .i64 (-1) ∧ (p < k ∧ f p ≠ g p ∧ ∀ j, j < k → j ≠ p → f j = g j))
  ∨ (∃ p r : Nat, cnt = .int .i64 2 ∧ fi = .int .i64 p ∧ se = .int .i64 r ∧ (p < r ∧ r < k ∧ f p ≠ g p ∧ f r ≠ g r ∧ ∀ j, j < k → j ≠ p → j ≠ r → f j = g j))

theorem Cnt.eq {f g : Nat → Int} {k : Nat} {cnt fi se : Value} (h : Cnt f g k cnt fi se) (he : f k = g k) : Cnt f g (k + 1) cnt fi se := by
  rcases h with ⟨h1, h2, h3, hc⟩ | ⟨p, h1, h2, h3, a, b, hc⟩ | ⟨p, r, h1, h2, h3, a, b, c, d, hc⟩
  · refine .inl ⟨h1, h2, h3, fun j hj => ?_⟩
    by_cases e : j = k
    · subst e; exact he
    · exact hc j (by omega)
  · refine .inr (.inl ⟨p, h1, h2, h3, by omega, b, fun j hj hp => ?_⟩)
    by_cases e : j = k
    · subst e; exact he
    · exact hc j (by omega) hp
  · refine .inr (.inr ⟨p, r, h1, h2, h3, a, by omega, c, d, fun j hj hp hr => ?_⟩)
    by_cases e : j = k
    · subst e; exact he
    · exact hc j (by omega) hp hr

theorem Cnt.one {f g : Nat → Int} {k : Nat} (hc : ∀ j, j < k → f j = g j) (he : f k ≠ g k) : Cnt f g (k + 1) (.int .i64 1) (.int .i64 k) (.int .i64 (-1)) :=
  .inr (.inl ⟨k, rfl, rfl, rfl, by omega, he, fun j hj hp => hc j (by omega)⟩)

theorem Cnt.two {f g : Nat → Int} {k p : Nat} (hc : p < k ∧ f p ≠ g p ∧ ∀ j, j < k → j ≠ p → f j = g j) (he : f k ≠ g k) : Cnt f g (k + 1) (.int .i64 2) (.int .i64 p) (.int .i64 k) :=
  .inr (.inr ⟨p, k, rfl, rfl, rfl, hc.1, by omega, hc.2.1, he, fun j hj hp hr => hc.2.2 j (by omega) hp⟩)

set_option maxHeartbeats 1000000 in
theorem model_same (a1 a2 : Option Addr) (n c1 c2 : Nat) (f g : Nat → Int) (w : World) (h1 : Sl w a1 n c1 f) (h2 : Sl w a2 n c2 g) :
    Calls Try.prog 21 #[.slice a1 n c1, .slice a2 n c2] w fun e w' => OE e n f n g ∧ Drawn w w' := by
  obtain ⟨p1, p2, p3⟩ := h1
  obtain ⟨q1, q2, q3⟩ := h2
  go_enter Try.func21, Try.ntmps21
  go_wp2
  go_loopw [5, 6, 7, 8] (fun cnt fi se i wr => ∃ k q : Nat, k ≤ n ∧ i = .int .i64 k ∧ wr = w.drewN q ∧ Cnt f g k cnt fi se) (fun _ _ _ i _ => n - (intOf i).toNat)
  case atStart => exact ⟨0, 0, Nat.zero_le _, rfl, rfl, .inl ⟨rfl, rfl, rfl, fun j hj => by omega⟩⟩
  case round =>
    obtain ⟨k, q, hk, rfl, rfl, hcnt⟩ := hrel
    by_cases hlt : k < n
    · rcases p3 with p3 | ⟨B1, o1, rfl, k1⟩
      · omega
      rcases q3 with q3 | ⟨B2, o2, rfl, k2⟩
      · omega
      have g1 := k1 k hlt
      have g2 := k2 k hlt
      have hlt' : (k : Int) < n := by omega
      clear k1 k2
      by_cases he : f k = g k
      · have hfg : (f k != g k) = false := by simpa using he
        have HC := hcnt.eq he
        have hx := hcnt
        clear he hcnt
        rcases hx with ⟨rfl, rfl, rfl, -⟩ | ⟨p, rfl, rfl, rfl, -⟩ | ⟨p, r, rfl, rfl, rfl, -⟩
        all_goals (
          go_wp2
          go_quiet (fail)
          go_wp2
          go_roundw
          case rel => exact ⟨k + 1, q + nq, by omega, by go_num, by simp, HC⟩
          case measure => simp [intOf]; omega)
      · have hfg : (f k != g k) = true := by simpa using he
        rcases hcnt with ⟨rfl, rfl, rfl, hc⟩ | ⟨p, rfl, rfl, rfl, hc⟩ | ⟨p, r, rfl, rfl, rfl, hc⟩
        · have HC : Cnt f g (k + 1) (.int .i64 1) (.int .i64 k) (.int .i64 (-1)) := Cnt.one hc he
          clear he hc
          go_wp2
          go_quiet (fail)
          go_wp2
          go_roundw
          case rel => exact ⟨k + 1, q + nq, by omega, by go_num, by simp, HC⟩
          case measure => simp [intOf]; omega
        · have HC : Cnt f g (k + 1) (.int .i64 2) (.int .i64 p) (.int .i64 k) := Cnt.two hc he
          clear he hc
          go_wp2
          go_quiet (fail)
          go_wp2
          go_roundw
          case rel => exact ⟨k + 1, q + nq, by omega, by go_num, by simp, HC⟩
          case measure => simp [intOf]; omega
        · have HN : Hid (¬ OneEdit n f n g) := oneEdit_count3 hc.1 hc.2.1 hlt hc.2.2.1 hc.2.2.2.1 he
          clear he hc
          go_wp2
          go_quiet (fail)
          go_wp2
          go_ret
          exact ⟨⟨false, rfl, ⟨fun h => (by cases h), fun h => absurd h HN.out⟩⟩, by first | exact Drawn.one _ _ | exact Drawn.two _ _ _ | exact Drawn.three _ _ _ _⟩
    · obtain rfl : n = k := by omega
      have hlt' : ¬ (n : Int) < n := by omega
      rcases hcnt with ⟨rfl, rfl, rfl, hc⟩ | ⟨p, rfl, rfl, rfl, hc⟩ | ⟨p, r, rfl, rfl, rfl, hc⟩
      · have HT : Hid (OneEdit n f n g) := oneEdit_count1 (p := 0) (fun j hj _ => hc j hj)
        clear hc
        go_wp2
        go_ret
        exact ⟨⟨true, rfl, ⟨fun _ => HT.out, fun _ => rfl⟩⟩, by first | exact Drawn.one _ _ | exact Drawn.two _ _ _ | exact Drawn.three _ _ _ _⟩
      · have HT : Hid (OneEdit n f n g) := oneEdit_count1 (p := p) (fun j hj hp => hc.2.2 j hj hp)
        clear hc
        go_wp2
        go_ret
        exact ⟨⟨true, rfl, ⟨fun _ => HT.out, fun _ => rfl⟩⟩, by first | exact Drawn.one _ _ | exact Drawn.two _ _ _ | exact Drawn.three _ _ _ _⟩
      · obtain ⟨d1, d2, d3, d4, d5⟩ := hc
        have HS : Hid (OneEdit n f n g ↔ (r = p + 1 ∧ f p = g r ∧ f r = g p)) := oneEdit_count2 d1 d2 d3 d4 d5
        clear d3 d4 d5
        rcases p3 with p3 | ⟨B1, o1, rfl, k1⟩
        · omega
        rcases q3 with q3 | ⟨B2, o2, rfl, k2⟩
        · omega
        have g1 := k1 p (by omega)
        have g2 := k2 p (by omega)
        have g3 := k1 r (by omega)
        have g4 := k2 r (by omega)
        have e1 : (p : Int) < n := by omega
        have e2 : (r : Int) < n := by omega
        clear k1 k2
        by_cases hr : r = p + 1
        · have hr' : ((r : Int) == (p : Int) + 1) = true := by simp; omega
          by_cases hs1 : f p = g r
          · have hb1 : (f p == g r) = true := by simpa using hs1
            by_cases hs2 : f r = g p
            · have hb2 : (f r == g p) = true := by simpa using hs2
              have HT : Hid (OneEdit n f n g) := HS.out.2 ⟨hr, hs1, hs2⟩
              clear hr hs1 hs2
              go_wp2
              go_quiet (fail)
              go_wp2
              go_ret
              exact ⟨⟨true, rfl, ⟨fun _ => HT.out, fun _ => rfl⟩⟩, by first | exact Drawn.one _ _ | exact Drawn.two _ _ _ | exact Drawn.three _ _ _ _⟩
            · have hb2 : (f r == g p) = false := by simpa using hs2
              have HN : Hid (¬ OneEdit n f n g) := fun h => hs2 (HS.out.1 h).2.2
              clear hr hs1 hs2
              go_wp2
              go_quiet (fail)
              go_wp2
              go_ret
              exact ⟨⟨false, rfl, ⟨fun h => (by cases h), fun h => absurd h HN.out⟩⟩, by first | exact Drawn.one _ _ | exact Drawn.two _ _ _ | exact Drawn.three _ _ _ _⟩
          · have hb1 : (f p == g r) = false := by simpa using hs1
            have HN : Hid (¬ OneEdit n f n g) := fun h => hs1 (HS.out.1 h).2.1
            clear hr hs1
            go_wp2
            go_quiet (fail)
            go_wp2
            go_ret
            exact ⟨⟨false, rfl, ⟨fun h => (by cases h), fun h => absurd h HN.out⟩⟩, by first | exact Drawn.one _ _ | exact Drawn.two _ _ _ | exact Drawn.three _ _ _ _⟩
        · have hr' : ((r : Int) == (p : Int) + 1) = false := by simp; omega
          have HN : Hid (¬ OneEdit n f n g) := fun h => hr (HS.out.1 h).1
          clear hr
          go_wp2
          go_quiet (fail)
          go_wp2
          go_ret
          exact ⟨⟨false, rfl, ⟨fun h => (by cases h), fun h => absurd h HN.out⟩⟩, by first | exact Drawn.one _ _ | exact Drawn.two _ _ _ | exact Drawn.three _ _ _ _⟩

end Go.Proofs.Qxb6601082a
