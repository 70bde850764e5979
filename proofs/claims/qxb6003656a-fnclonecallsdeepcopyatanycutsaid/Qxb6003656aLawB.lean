import Derived.Test.Qxb6003656aBytes
namespace Go.Proofs.Qxb6003656a
open Go.RowKit

set_option maxHeartbeats 8000000 in
set_option maxRecDepth 100000 in
theorem clone_ne (a0 a1 a2 : Option Addr) (n0 c0 n1 c1 n2 c2 : Nat) (k0 : Int) (P : Nat → ByteArray) (A : Nat → Option Addr) (L C : Nat → Nat) (S : Nat → Nat → ByteArray) (w : World)
   (hp : SlV w a0 n0 (fun i => .string (P i))) (ha : SlV w a1 n1 (fun i => .slice (A i) (L i) (C i))) (hs : ∀ i, i < n1 → SlV w (A i) (L i) (fun j => .string (S i j)))
   (hne : ¬ (n1 = n0 ∧ n2 = n0)) :
    Calls Try.prog 4 #[.slice a0 n0 c0, .slice a1 n1 c1, .slice a2 n2 c2, .int .i64 k0] w fun e w' => e = .returned (.bool true) ∧ Below w.heap.size w w' := by
  go_enter Try.func4, Try.ntmps4
  go_wp2_with fail
  refine (bytes_any a0 a1 a2 n0 c0 n1 c1 n2 c2 (.int .i64 k0) P A L C S w hp ha hs).mono ?_
  rintro e wz ⟨rfl | ⟨rfl, hbd⟩, rfl⟩
  · go_wp2
    go_ret
    exact ⟨rfl, Below.refl _ _⟩
  · by_cases t1 : 65536 < (n0 : Int)
    · go_wp2
      go_ret
      exact ⟨rfl, Below.refl _ _⟩
    · by_cases t2 : 65536 < (n1 : Int)
      · go_wp2
        go_ret
        exact ⟨rfl, Below.refl _ _⟩
      · by_cases t3 : 65536 < (n2 : Int)
        · go_wp2
          go_ret
          exact ⟨rfl, Below.refl _ _⟩
        · go_wp2
          go_loop [9, 10] (fun b i => ∃ (k : Nat) (z : Int), k ≤ n0 ∧ i = .int .i64 k ∧ b = .int .i64 z ∧ 0 ≤ z ∧ z ≤ 4194304) (fun _ i => n0 - (intOf i).toNat)
          case atStart => exact ⟨0, _, by omega, rfl, rfl, by omega, by omega⟩
          case round =>
            obtain ⟨k, z, hk, rfl, rfl, hz0, hz1⟩ := hrel
            by_cases hlt : k < n0
            · have hlt' : (k : Int) < n0 := by omega
              by_cases hzb : z ≤ 1048576
              · have G1 : ∃ Bp op, a0 = some ⟨Bp, op, none⟩ ∧ w.cell? ⟨Bp, op + k, none⟩ = some (.string (P k)) := by
                  rcases hp with h0 | ⟨Bp, op, h1, hp'⟩
                  · omega
                  · exact ⟨Bp, op, h1, hp' k hlt⟩
                obtain ⟨Bp, op, rfl, g1⟩ := G1
                have hPk := hbd.2.2.2.1 k hlt
                have hPk' : ((P k).size : Int) ≤ 1048576 := by omega
                go_wp2
                go_round
                case rel => exact ⟨k + 1, z + ((P k).size : Int), by omega, by go_num, rfl, by omega, by omega⟩
                case measure => simp [intOf]; omega
              · go_wp2
                go_loop [9, 11, 12] (fun b i _ => b = .int .i64 z ∧ i = .int .i64 0) (fun _ _ _ => 0)
                case atStart => exact ⟨rfl, rfl⟩
                case round =>
                  obtain ⟨rfl, rfl⟩ := hrel
                  by_cases q0 : 0 < n1
                  · have q1 : (0 : Int) < n1 := by omega
                    have q2 : ¬ z ≤ 1048576 := by omega
                    go_wp2
                    go_ret
                    exact ⟨rfl, Below.refl _ _⟩
                  · have q1 : decide ((0 : Int) < (n1 : Int)) = false := by simp; omega
                    go_wp2
                    go_ret
                    exact ⟨rfl, Below.refl _ _⟩
            · have hlt' : decide ((k : Int) < (n0 : Int)) = false := by simp; omega
              by_cases hzb : z ≤ 1048576
              · go_wp2
                go_loop [9, 11] (fun b i => ∃ (k : Nat) (z : Int), k ≤ n1 ∧ i = .int .i64 k ∧ b = .int .i64 z ∧ 0 ≤ z ∧ z ≤ 33554432) (fun _ i => n1 - (intOf i).toNat)
                case atStart => exact ⟨0, _, by omega, rfl, rfl, by omega, by omega⟩
                case round =>
                  clear hz0 hz1 hzb
                  obtain ⟨k, z, hk, rfl, rfl, hz0, hz1⟩ := hrel
                  by_cases hlt : k < n1
                  · have hlt' : (k : Int) < n1 := by omega
                    by_cases hzb : z ≤ 1048576
                    · have G2 : ∃ Ba oa, a1 = some ⟨Ba, oa, none⟩ ∧ w.cell? ⟨Ba, oa + k, none⟩ = some (.slice (A k) (L k) (C k)) := by
                        rcases ha with h0 | ⟨Ba, oa, h1, ha'⟩
                        · omega
                        · exact ⟨Ba, oa, h1, ha' k hlt⟩
                      obtain ⟨Ba, oa, rfl, g2⟩ := G2
                      have hLk := (hbd.2.2.2.2 k hlt).1
                      have hLk' : (L k : Int) ≤ 1048576 := by omega
                      go_wp2
                      go_loop [9, 12] (fun b i => ∃ (j : Nat) (y : Int), j ≤ L k ∧ i = .int .i64 j ∧ b = .int .i64 y ∧ 0 ≤ y ∧ y ≤ 33554432) (fun _ i => L k - (intOf i).toNat)
                      case atStart => exact ⟨0, _, by omega, rfl, rfl, by omega, by omega⟩
                      case round =>
                        obtain ⟨j, y, hj, rfl, rfl, hy0, hy1⟩ := hrel
                        by_cases hjl : j < L k
                        · have hjl' : (j : Int) < L k := by omega
                          by_cases hyb : y ≤ 1048576
                          · rcases (hs k hlt) with h0 | ⟨Bx, ox, ex, hx⟩
                            · omega
                            have g4 := hx j hjl
                            have hS := (hbd.2.2.2.2 k hlt).2 j hjl
                            have hS' : ((S k j).size : Int) ≤ 1048576 := by omega
                            rw [ex] at g2
                            clear hx ex hS
                            go_wp2
                            go_round
                            case rel => exact ⟨j + 1, y + ((S k j).size : Int), by omega, by go_num, rfl, by omega, by omega⟩
                            case measure => simp [intOf]; omega
                          · go_wp2
                            go_round
                            case rel => exact ⟨k + 1, y, by omega, by go_num, rfl, by omega, by omega⟩
                            case measure => simp [intOf]; omega
                        · have hjl' : decide ((j : Int) < (L k : Int)) = false := by simp; omega
                          go_wp2
                          go_round
                          case rel => exact ⟨k + 1, y, by omega, by go_num, rfl, by omega, by omega⟩
                          case measure => simp [intOf]; omega
                    · go_wp2
                      go_ret
                      exact ⟨rfl, Below.refl _ _⟩
                  · have hlt' : decide ((k : Int) < (n1 : Int)) = false := by simp; omega
                    by_cases hzb : z ≤ 1048576
                    · have hzb' : ¬ 1048576 < z := by omega
                      by_cases e1 : n1 = n0
                      · have e2 : ¬ n2 = n0 := fun h => hne ⟨e1, h⟩
                        have h1 : ((n1 : Int) != (n0 : Int)) = false := by simp; omega
                        have h2 : ((n2 : Int) != (n0 : Int)) = true := by simp; omega
                        clear e1 e2
                        go_wp2
                        go_ret
                        exact ⟨rfl, Below.refl _ _⟩
                      · have h1 : ((n1 : Int) != (n0 : Int)) = true := by simp; omega
                        clear e1
                        go_wp2
                        go_ret
                        exact ⟨rfl, Below.refl _ _⟩
                    · go_wp2
                      go_ret
                      exact ⟨rfl, Below.refl _ _⟩
              · go_wp2
                go_loop [9, 11, 12] (fun b i _ => b = .int .i64 z ∧ i = .int .i64 0) (fun _ _ _ => 0)
                case atStart => exact ⟨rfl, rfl⟩
                case round =>
                  obtain ⟨rfl, rfl⟩ := hrel
                  by_cases q0 : 0 < n1
                  · have q1 : (0 : Int) < n1 := by omega
                    have q2 : ¬ z ≤ 1048576 := by omega
                    go_wp2
                    go_ret
                    exact ⟨rfl, Below.refl _ _⟩
                  · have q1 : decide ((0 : Int) < (n1 : Int)) = false := by simp; omega
                    go_wp2
                    go_ret
                    exact ⟨rfl, Below.refl _ _⟩

end Go.Proofs.Qxb6003656a
