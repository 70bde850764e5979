import Derived.Test.Qxb6600445aOps
namespace Go.Proofs.Qxb6600445a
open Go.RowKit Go.Maps

/-- It said no, or yes and the bounds hold. -/
def BytesB (e : Ending) (m n1 n2 n3 : Nat) (X S : Nat → ByteArray) : Prop :=
  e = .returned (.bool false) ∨ (e = .returned (.bool true) ∧ m ≤ 1048576 ∧ n1 ≤ 1048576 ∧ n2 ≤ 1048576 ∧ n3 ≤ 1048576 ∧ (∀ i, i < m → (X i).size ≤ 1048576) ∧ ∀ i, i < n3 → (S i).size ≤ 1048576)

set_option maxHeartbeats 2000000 in
theorem bytes_any (ax a1 a2 a3 : Option Addr) (m n1 n2 n3 cx c1 c2 c3 : Nat) (k : Int) (X S : Nat → ByteArray) (w : World) (hx : SlV w ax m (fun i => .string (X i))) (hs : SlV w a3 n3 (fun i => .string (S i))) :
    Calls Try.prog 22 #[.slice ax m cx, .slice a1 n1 c1, .slice a2 n2 c2, .slice a3 n3 c3, .int .i64 k] w fun e w' => BytesB e m n1 n2 n3 X S ∧ w = w' := by
  go_enter Try.func22, Try.ntmps22
  by_cases b0 : 1048576 < (m : Int)
  · go_wp2
    go_ret
    exact ⟨.inl rfl, rfl⟩
  go_wp2
  go_loop [11, 12] (fun b i => ∃ (k : Nat) (z : Int), k ≤ m ∧ i = .int .i64 k ∧ b = .int .i64 z ∧ 0 ≤ z ∧ z ≤ 1048576 ∧ Hid (∀ i, i < k → (X i).size ≤ 1048576)) (fun _ i => m - (intOf i).toNat)
  case atStart => exact ⟨0, _, by omega, rfl, rfl, by omega, by omega, fun i hi => by omega⟩
  case round =>
    obtain ⟨k, z, hk, rfl, rfl, hz0, hz1, HP⟩ := hrel
    by_cases hlt : k < m
    · rcases hx with h0 | ⟨Bp, op, rfl, hp'⟩
      · omega
      have g1 : w.cell? ⟨Bp, op + k, none⟩ = some (.string (X k)) := hp' k hlt
      have hlt' : (k : Int) < m := by omega
      clear hp'
      by_cases b7 : 1048576 < ((X k).size : Int)
      · go_wp2
        go_ret
        exact ⟨.inl rfl, rfl⟩
      · by_cases b8 : 1048576 < z + ((X k).size : Int)
        · go_wp2
          go_ret
          exact ⟨.inl rfl, rfl⟩
        · have HP2 : Hid (∀ i, i < k + 1 → (X i).size ≤ 1048576) := fun i hi => by
            by_cases e : i = k
            · subst e; omega
            · exact HP.out i (by omega)
          go_wp2
          go_round
          case rel => exact ⟨k + 1, z + ((X k).size : Int), by omega, by go_num, rfl, by omega, by omega, HP2⟩
          case measure => simp [intOf]; omega
    · have hlt' : ¬ (k : Int) < m := by omega
      obtain rfl : m = k := by omega
      clear hx
      by_cases b1 : 1048576 < (n1 : Int)
      · go_wp2
        go_ret
        exact ⟨.inl rfl, rfl⟩
      by_cases b2 : 1048576 < z + n1
      · go_wp2
        go_ret
        exact ⟨.inl rfl, rfl⟩
      by_cases b3 : 1048576 < (n2 : Int)
      · go_wp2
        go_ret
        exact ⟨.inl rfl, rfl⟩
      by_cases b4 : 1048576 < z + n1 + n2
      · go_wp2
        go_ret
        exact ⟨.inl rfl, rfl⟩
      by_cases b5 : 1048576 < (n3 : Int)
      · go_wp2
        go_ret
        exact ⟨.inl rfl, rfl⟩
      by_cases b6 : 1048576 < z + n1 + n2 + n3
      · go_wp2
        go_ret
        exact ⟨.inl rfl, rfl⟩
      go_wp2
      go_loop [11, 13] (fun b i => ∃ (k : Nat) (z : Int), k ≤ n3 ∧ i = .int .i64 k ∧ b = .int .i64 z ∧ 0 ≤ z ∧ z ≤ 1048576 ∧ Hid (∀ i, i < k → (S i).size ≤ 1048576)) (fun _ i => n3 - (intOf i).toNat)
      case atStart => exact ⟨0, _, by omega, rfl, rfl, by omega, by omega, fun i hi => by omega⟩
      case round =>
        obtain ⟨k, z2, hk, rfl, rfl, hz0', hz1', HP'⟩ := hrel
        by_cases hlt : k < n3
        · rcases hs with h0 | ⟨Bp, op, rfl, hp'⟩
          · omega
          have g1 : w.cell? ⟨Bp, op + k, none⟩ = some (.string (S k)) := hp' k hlt
          have hlt' : (k : Int) < n3 := by omega
          clear hp'
          by_cases b7 : 1048576 < ((S k).size : Int)
          · go_wp2
            go_ret
            exact ⟨.inl rfl, rfl⟩
          · by_cases b8 : 1048576 < z2 + ((S k).size : Int)
            · go_wp2
              go_ret
              exact ⟨.inl rfl, rfl⟩
            · have HP2 : Hid (∀ i, i < k + 1 → (S i).size ≤ 1048576) := fun i hi => by
                by_cases e : i = k
                · subst e; omega
                · exact HP'.out i (by omega)
              go_wp2
              go_round
              case rel => exact ⟨k + 1, z2 + ((S k).size : Int), by omega, by go_num, rfl, by omega, by omega, HP2⟩
              case measure => simp [intOf]; omega
        · have hlt' : ¬ (k : Int) < n3 := by omega
          obtain rfl : n3 = k := by omega
          go_wp2
          go_ret
          exact ⟨.inr ⟨rfl, by omega, by omega, by omega, by omega, HP.out, HP'.out⟩, rfl⟩

set_option maxHeartbeats 1000000 in
theorem strBytes_any (a : Option Addr) (n c : Nat) (S : Nat → ByteArray) (w : World) (hs : SlV w a n (fun i => .string (S i))) (hn : n ≤ 1048576) (hS : ∀ i, i < n → (S i).size ≤ 1048576) :
    Calls Try.prog 10 #[.slice a n c] w fun e w' => ∃ z : Int, e = .returned (.int .i64 z) ∧ 0 ≤ z ∧ z ≤ 33554432 ∧ w = w' := by
  go_enter Try.func10, Try.ntmps10
  go_wp2
  go_loop [3, 4] (fun b i => ∃ (k : Nat) (z : Int), k ≤ n ∧ i = .int .i64 k ∧ b = .int .i64 z ∧ 0 ≤ z ∧ z ≤ 16777216) (fun _ i => n - (intOf i).toNat)
  case atStart => exact ⟨0, _, by omega, rfl, rfl, by omega, by omega⟩
  case round =>
    obtain ⟨k, z, hk, rfl, rfl, hz0, hz1⟩ := hrel
    by_cases hlt : k < n
    · rcases hs with h0 | ⟨Bp, op, rfl, hp'⟩
      · omega
      have g1 : w.cell? ⟨Bp, op + k, none⟩ = some (.string (S k)) := hp' k hlt
      have g2 := hS k hlt
      have hlt' : (k : Int) < n := by omega
      clear hp' hS
      by_cases b8 : 1048576 < z + ((S k).size : Int)
      · go_wp2
        go_ret
        exact ⟨_, rfl, by omega, by omega, rfl⟩
      · go_wp2
        go_round
        case rel => exact ⟨k + 1, z + ((S k).size : Int), by omega, by go_num, rfl, by omega, by omega⟩
        case measure => simp [intOf]; omega
    · have hlt' : ¬ (k : Int) < n := by omega
      go_wp2
      go_ret
      exact ⟨z, rfl, by omega, by omega, rfl⟩

end Go.Proofs.Qxb6600445a
