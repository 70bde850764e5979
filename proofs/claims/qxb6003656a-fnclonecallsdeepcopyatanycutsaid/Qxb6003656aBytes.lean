import Derived.Test.Qxb6003656aSame
namespace Go.Proofs.Qxb6003656a
open Go.RowKit

/-- What the bound on total length gives. -/
def Bounded (n0 n1 n2 : Nat) (P : Nat → ByteArray) (L : Nat → Nat) (S : Nat → Nat → ByteArray) : Prop :=
  n0 ≤ 1048576 ∧ n1 ≤ 1048576 ∧ n2 ≤ 1048576 ∧ (∀ i, i < n0 → (P i).size ≤ 1048576) ∧ ∀ i, i < n1 → L i ≤ 1048576 ∧ ∀ j, j < L i → (S i j).size ≤ 1048576

/-- It said no, or yes and the bounds hold. -/
def BytesSaid (e : Ending) (n0 n1 n2 : Nat) (P : Nat → ByteArray) (L : Nat → Nat) (S : Nat → Nat → ByteArray) : Prop :=
  e = .returned (.bool false) ∨ (e = .returned (.bool true) ∧ Bounded n0 n1 n2 P L S)

set_option maxHeartbeats 2000000 in
theorem bytes_any (a0 a1 a2 : Option Addr) (n0 c0 n1 c1 n2 c2 : Nat) (k0 : Value) (P : Nat → ByteArray) (A : Nat → Option Addr) (L C : Nat → Nat) (S : Nat → Nat → ByteArray) (w : World)
   (hp : SlV w a0 n0 (fun i => .string (P i))) (ha : SlV w a1 n1 (fun i => .slice (A i) (L i) (C i))) (hs : ∀ i, i < n1 → SlV w (A i) (L i) (fun j => .string (S i j))) :
    Calls Try.prog 12 #[.slice a0 n0 c0, .slice a1 n1 c1, .slice a2 n2 c2, k0] w fun e w' => BytesSaid e n0 n1 n2 P L S ∧ w = w' := by
  go_enter Try.func12, Try.ntmps12
  by_cases b11 : 1048576 < (n0 : Int)
  · go_wp2
    go_ret
    exact ⟨.inl rfl, rfl⟩
  · go_wp2
    go_loop [9, 10] (fun b i => ∃ (k : Nat) (z : Int), k ≤ n0 ∧ i = .int .i64 k ∧ b = .int .i64 z ∧ 0 ≤ z ∧ z ≤ 1048576 ∧ Hid (∀ i, i < k → (P i).size ≤ 1048576)) (fun _ i => n0 - (intOf i).toNat)
    case atStart => exact ⟨0, _, by omega, rfl, rfl, by omega, by omega, fun i hi => by omega⟩
    case round =>
      obtain ⟨k, z, hk, rfl, rfl, hz0, hz1, HP⟩ := hrel
      by_cases hlt : k < n0
      · rcases hp with h0 | ⟨Bp, op, rfl, hp'⟩
        · omega
        have g1 : w.cell? ⟨Bp, op + k, none⟩ = some (.string (P k)) := hp' k hlt
        have hlt' : (k : Int) < n0 := by omega
        clear hp'
        by_cases b7 : 1048576 < ((P k).size : Int)
        · go_wp2
          go_ret
          exact ⟨.inl rfl, rfl⟩
        · by_cases b8 : 1048576 < z + ((P k).size : Int)
          · go_wp2
            go_ret
            exact ⟨.inl rfl, rfl⟩
          · have HP2 : Hid (∀ i, i < k + 1 → (P i).size ≤ 1048576) := fun i hi => by
              by_cases e : i = k
              · subst e; omega
              · exact HP.out i (by omega)
            go_wp2
            go_round
            case rel => exact ⟨k + 1, z + ((P k).size : Int), by omega, by go_num, rfl, by omega, by omega, HP2⟩
            case measure => simp [intOf]; omega
      · have hlt' : ¬ (k : Int) < n0 := by omega
        obtain rfl : n0 = k := by omega
        by_cases b9 : 1048576 < (n1 : Int)
        · go_wp2
          go_ret
          exact ⟨.inl rfl, rfl⟩
        · by_cases b10 : 1048576 < z + (n1 : Int)
          · go_wp2
            go_ret
            exact ⟨.inl rfl, rfl⟩
          · go_wp2
            go_loop [9, 11] (fun b i => ∃ (k : Nat) (z : Int), k ≤ n1 ∧ i = .int .i64 k ∧ b = .int .i64 z ∧ 0 ≤ z ∧ z ≤ 1048576 ∧ Hid (∀ i, i < k → L i ≤ 1048576 ∧ ∀ j, j < L i → (S i j).size ≤ 1048576)) (fun _ i => n1 - (intOf i).toNat)
            case atStart => exact ⟨0, _, by omega, rfl, rfl, by omega, by omega, fun i hi => by omega⟩
            case round =>
              obtain ⟨k, z, hk, rfl, rfl, hz0, hz1, HA⟩ := hrel
              by_cases hlt : k < n1
              · rcases ha with h0 | ⟨Ba, oa, rfl, ha'⟩
                · omega
                have g2 : w.cell? ⟨Ba, oa + k, none⟩ = some (.slice (A k) (L k) (C k)) := ha' k hlt
                have hlt' : (k : Int) < n1 := by omega
                clear ha'
                by_cases b5 : 1048576 < (L k : Int)
                · go_wp2
                  go_ret
                  exact ⟨.inl rfl, rfl⟩
                · by_cases b6 : 1048576 < z + (L k : Int)
                  · go_wp2
                    go_ret
                    exact ⟨.inl rfl, rfl⟩
                  · go_wp2
                    go_loop [9, 12] (fun b i => ∃ (j : Nat) (y : Int), j ≤ L k ∧ i = .int .i64 j ∧ b = .int .i64 y ∧ 0 ≤ y ∧ y ≤ 1048576 ∧ Hid (∀ i, i < j → (S k i).size ≤ 1048576)) (fun _ i => L k - (intOf i).toNat)
                    case atStart => exact ⟨0, _, by omega, rfl, rfl, by omega, by omega, fun i hi => by omega⟩
                    case round =>
                      obtain ⟨j, y, hj, rfl, rfl, hy0, hy1, HJ⟩ := hrel
                      by_cases hjl : j < L k
                      · rcases (hs k hlt) with h0 | ⟨Bx, ox, ex, hx⟩
                        · omega
                        have g4 := hx j hjl
                        have hjl' : (j : Int) < L k := by omega
                        rw [ex] at g2
                        clear hx ex
                        by_cases b3 : 1048576 < ((S k j).size : Int)
                        · go_wp2
                          go_ret
                          exact ⟨.inl rfl, rfl⟩
                        · by_cases b4 : 1048576 < y + ((S k j).size : Int)
                          · go_wp2
                            go_ret
                            exact ⟨.inl rfl, rfl⟩
                          · have HJ2 : Hid (∀ i, i < j + 1 → (S k i).size ≤ 1048576) := fun i hi => by
                              by_cases e : i = j
                              · subst e; omega
                              · exact HJ.out i (by omega)
                            go_wp2
                            go_round
                            case rel => exact ⟨j + 1, y + ((S k j).size : Int), by omega, by go_num, rfl, by omega, by omega, HJ2⟩
                            case measure => simp [intOf]; omega
                      · have hjl' : ¬ (j : Int) < L k := by omega
                        have HA2 : Hid (∀ i, i < k + 1 → L i ≤ 1048576 ∧ ∀ j, j < L i → (S i j).size ≤ 1048576) := fun i hi => by
                          by_cases e : i = k
                          · subst e; exact ⟨by omega, fun j' hj' => HJ.out j' (by omega)⟩
                          · exact HA.out i (by omega)
                        go_wp2
                        go_round
                        case rel => exact ⟨k + 1, y, by omega, by go_num, rfl, by omega, by omega, HA2⟩
                        case measure => simp [intOf]; omega
              · have hlt' : ¬ (k : Int) < n1 := by omega
                obtain rfl : n1 = k := by omega
                by_cases b1 : 1048576 < (n2 : Int)
                · go_wp2
                  go_ret
                  exact ⟨.inl rfl, rfl⟩
                · by_cases b2 : 1048576 < z + (n2 : Int)
                  · go_wp2
                    go_ret
                    exact ⟨.inl rfl, rfl⟩
                  · go_wp2
                    go_ret
                    exact ⟨.inr ⟨rfl, by omega, by omega, by omega, HP.out, HA.out⟩, rfl⟩

end Go.Proofs.Qxb6003656a
