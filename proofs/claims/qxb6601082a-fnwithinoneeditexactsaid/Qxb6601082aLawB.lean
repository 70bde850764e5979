import Derived.Test.Qxb6601082aModelB
namespace Go.Proofs.Qxb6601082a
open Go.RowKit

set_option maxHeartbeats 400000 in
theorem model_far1 (a1 a2 : Option Addr) (n c1 m c2 : Nat) (f g : Nat → Int) (w : World) (hn : n ≤ 100000) (hm : m ≤ 100000) (h : n + 1 < m) :
    Calls Try.prog 21 #[.slice a1 n c1, .slice a2 m c2] w fun e w' => OE e n f m g ∧ Drawn w w' := by
  have hne : ((n : Int) == (m : Int)) = false := by simp; omega
  have hsw : (n : Int) < (m : Int) := by omega
  have hd1 : (((m : Int) - (n : Int)) != 1) = true := by simp; omega
  go_enter Try.func21, Try.ntmps21
  go_wp2
  go_ret
  exact ⟨⟨false, rfl, ⟨fun h => (by cases h), fun h' => absurd h' (oneEdit_far h)⟩⟩, 0, rfl⟩

set_option maxHeartbeats 400000 in
theorem model_far2 (a1 a2 : Option Addr) (n c1 m c2 : Nat) (f g : Nat → Int) (w : World) (hn : n ≤ 100000) (hm : m ≤ 100000) (h : m + 1 < n) :
    Calls Try.prog 21 #[.slice a1 n c1, .slice a2 m c2] w fun e w' => OE e n f m g ∧ Drawn w w' := by
  have hne : ((n : Int) == (m : Int)) = false := by simp; omega
  have hsw : ¬ (n : Int) < (m : Int) := by omega
  have hd1 : (((n : Int) - (m : Int)) != 1) = true := by simp; omega
  go_enter Try.func21, Try.ntmps21
  go_wp2
  go_ret
  exact ⟨⟨false, rfl, ⟨fun h => (by cases h), fun h' => absurd h'.symm (oneEdit_far h)⟩⟩, 0, rfl⟩

/-- The model answers the same question. -/
theorem model_any (a1 a2 : Option Addr) (n c1 m c2 : Nat) (f g : Nat → Int) (w : World) (h1 : Sl w a1 n c1 f) (h2 : Sl w a2 m c2 g) :
    Calls Try.prog 21 #[.slice a1 n c1, .slice a2 m c2] w fun e w' => OE e n f m g ∧ Drawn w w' := by
  have b1 : n ≤ 100000 := Nat.le_trans h1.1 h1.2.1
  have b2 : m ≤ 100000 := Nat.le_trans h2.1 h2.2.1
  by_cases e0 : n = m
  · subst e0
    exact model_same a1 a2 n c1 c2 f g w h1 h2
  · by_cases e1 : n < m
    · by_cases e2 : m ≤ n + 1
      · exact model_short a1 a2 n c1 m c2 f g w h1 h2 e1 e2
      · exact model_far1 a1 a2 n c1 m c2 f g w b1 b2 (by omega)
    · by_cases e2 : n ≤ m + 1
      · exact model_long a1 a2 n c1 m c2 f g w h1 h2 (by omega) e2
      · exact model_far2 a1 a2 n c1 m c2 f g w b1 b2 (by omega)

set_option maxHeartbeats 800000 in
theorem exact_walk (a0 : Option Addr) (n cap0 : Nat) (z0 : List Int) (a1 : Option Addr) (m cap1 : Nat) (z1 : List Int) (w : World) (w0 : IsRow .i32 w a0 n cap0 z0) (w1 : IsRow .i32 w a1 m cap1 z1) :
    Calls Try.prog 8 #[.slice a0 n cap0, .slice a1 m cap1] w fun e w' => e = .returned (.bool true) ∧ Below w.heap.size w w' := by
  go_enter Try.func8, Try.ntmps8
  go_wp2_with fail
  refine (zz8_any w a0 n cap0 a1 m cap1).mono ?_
  rintro e wz ⟨rfl | rfl, rfl⟩
  · by_cases hl : 65536 < (n : Int)
    · go_wp2
      go_ret
      exact ⟨rfl, Below.refl _ _⟩
    · by_cases hm : 65536 < (m : Int)
      · go_wp2
        go_ret
        exact ⟨rfl, Below.refl _ _⟩
      · go_wp2_with fail
        refine (copy_any w a0 n cap0 z0 w0 (by omega)).mono ?_
        rintro e u1 ⟨sv, c, F, rfl, H⟩
        have r1 : IsRow .i32 u1 a1 m cap1 z1 := w1.below H.out.1
        go_wp2_with fail
        refine (copy_any u1 a1 m cap1 z1 r1 (by omega)).mono ?_
        rintro e u2 ⟨sv2, c2, G, rfl, H2⟩
        have s1 : Sl u2 sv n c F := H.out.2.below H2.out.1
        have s2 : Sl u2 sv2 m c2 G := H2.out.2
        have b2 : Below w.heap.size w u2 := H.out.1.trans (H2.out.1.mono H.out.1.size)
        clear H H2 r1 w0 w1
        go_wp2_with fail
        refine (within_any _ _ _ _ _ _ _ _ _ s1 s2).mono ?_
        rintro e u3 ⟨⟨x, rfl, hx⟩, ⟨q3, rfl⟩⟩
        go_wp2_with fail
        refine (model_any _ _ _ _ _ _ _ _ _ (s1.drewN q3) (s2.drewN q3)).mono ?_
        rintro e u4 ⟨⟨y, rfl, hy⟩, ⟨q4, rfl⟩⟩
        have hxy : x = y := by
          cases x <;> cases y <;> simp_all
        subst hxy
        clear hx hy s1 s2
        go_wp2
        go_ret
        exact ⟨by simp, below_drewN b2 _⟩
  · go_wp2
    go_ret
    exact ⟨rfl, Below.refl _ _⟩

end Go.Proofs.Qxb6601082a
