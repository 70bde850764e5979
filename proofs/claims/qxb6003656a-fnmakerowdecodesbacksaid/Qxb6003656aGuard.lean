import Derived.Test.Qxb6003656aSame
namespace Go.Proofs.Qxb6003656a
open Go.RowKit

/-- It said no, or yes and the bounds hold. -/
def BytesM (e : Ending) (key : ByteArray) (n1 n2 n3 : Nat) (S : Nat → ByteArray) : Prop :=
  e = .returned (.bool false) ∨ (e = .returned (.bool true) ∧ key.size ≤ 1048576 ∧ n1 ≤ 1048576 ∧ n2 ≤ 1048576 ∧ n3 ≤ 1048576 ∧ ∀ i, i < n3 → (S i).size ≤ 1048576)

set_option maxHeartbeats 2000000 in
theorem bytesM_any (key : ByteArray) (a1 a2 a3 : Option Addr) (n1 c1 n2 c2 n3 c3 : Nat) (S : Nat → ByteArray) (w : World) (hs : SlV w a3 n3 (fun i => .string (S i))) :
    Calls Try.prog 17 #[.string key, .slice a1 n1 c1, .slice a2 n2 c2, .slice a3 n3 c3] w fun e w' => BytesM e key n1 n2 n3 S ∧ w = w' := by
  go_enter Try.func17, Try.ntmps17
  by_cases b0 : 1048576 < (key.size : Int)
  · go_wp2
    go_ret
    exact ⟨.inl rfl, rfl⟩
  by_cases b1 : 1048576 < (n1 : Int)
  · go_wp2
    go_ret
    exact ⟨.inl rfl, rfl⟩
  by_cases b2 : 1048576 < (key.size : Int) + n1
  · go_wp2
    go_ret
    exact ⟨.inl rfl, rfl⟩
  by_cases b3 : 1048576 < (n2 : Int)
  · go_wp2
    go_ret
    exact ⟨.inl rfl, rfl⟩
  by_cases b4 : 1048576 < (key.size : Int) + n1 + n2
  · go_wp2
    go_ret
    exact ⟨.inl rfl, rfl⟩
  by_cases b5 : 1048576 < (n3 : Int)
  · go_wp2
    go_ret
    exact ⟨.inl rfl, rfl⟩
  by_cases b6 : 1048576 < (key.size : Int) + n1 + n2 + n3
  · go_wp2
    go_ret
    exact ⟨.inl rfl, rfl⟩
  go_wp2
  go_loop [9, 10] (fun b i => ∃ (k : Nat) (z : Int), k ≤ n3 ∧ i = .int .i64 k ∧ b = .int .i64 z ∧ 0 ≤ z ∧ z ≤ 1048576 ∧ Hid (∀ i, i < k → (S i).size ≤ 1048576)) (fun _ i => n3 - (intOf i).toNat)
  case atStart => exact ⟨0, _, by omega, rfl, rfl, by omega, by omega, fun i hi => by omega⟩
  case round =>
    obtain ⟨k, z, hk, rfl, rfl, hz0, hz1, HP⟩ := hrel
    by_cases hlt : k < n3
    · rcases hs with h0 | ⟨Bp, op, rfl, hp'⟩
      · omega
      have g1 : w.cell? ⟨Bp, op + k, none⟩ = some (.string (S k)) := hp' k hlt
      have hlt' : (k : Int) < n3 := by omega
      clear hp'
      by_cases b7 : 1048576 < ((S k).size : Int)
      · go_wp2
        go_ret
        exact ⟨.inl rfl, rfl⟩
      · by_cases b8 : 1048576 < z + ((S k).size : Int)
        · go_wp2
          go_ret
          exact ⟨.inl rfl, rfl⟩
        · have HP2 : Hid (∀ i, i < k + 1 → (S i).size ≤ 1048576) := fun i hi => by
            by_cases e : i = k
            · subst e; omega
            · exact HP.out i (by omega)
          go_wp2
          go_round
          case rel => exact ⟨k + 1, z + ((S k).size : Int), by omega, by go_num, rfl, by omega, by omega, HP2⟩
          case measure => simp [intOf]; omega
    · have hlt' : ¬ (k : Int) < n3 := by omega
      obtain rfl : n3 = k := by omega
      go_wp2
      go_ret
      exact ⟨.inr ⟨rfl, by omega, by omega, by omega, by omega, HP.out⟩, rfl⟩

/-- The guard said no, or yes and the fields are of one length and of the two kinds. -/
def GuardM (e : Ending) (key : ByteArray) (n1 n2 n3 : Nat) (X : Nat → Int) : Prop :=
  e = .returned (.bool false) ∨ (e = .returned (.bool true) ∧ key.size ≤ 65536 ∧ n1 ≤ 65536 ∧ n2 = n1 ∧ n3 = n1 ∧ ∀ i, i < n1 → X i = 1 ∨ X i = 2)

set_option maxHeartbeats 2000000 in
theorem guardM_any (key : ByteArray) (a1 a2 a3 : Option Addr) (n1 c1 n2 c2 n3 c3 : Nat) (X : Nat → Int) (S : Nat → ByteArray) (w : World)
   (hx : SlV w a1 n1 (fun i => .int .u8 (X i))) (hs : SlV w a3 n3 (fun i => .string (S i))) (hS : ∀ i, i < n3 → (S i).size ≤ 1048576)
   (m0 : key.size ≤ 1048576) (m1 : n1 ≤ 1048576) (m2 : n2 ≤ 1048576) (m3 : n3 ≤ 1048576) :
    Calls Try.prog 18 #[.string key, .slice a1 n1 c1, .slice a2 n2 c2, .slice a3 n3 c3] w fun e w' => GuardM e key n1 n2 n3 X ∧ w = w' := by
  go_enter Try.func18, Try.ntmps18
  by_cases b0 : 65536 < (key.size : Int)
  · go_wp2
    go_ret
    exact ⟨.inl rfl, rfl⟩
  by_cases b1 : 65536 < (n1 : Int)
  · go_wp2
    go_ret
    exact ⟨.inl rfl, rfl⟩
  by_cases b3 : 65536 < (n2 : Int)
  · go_wp2
    go_ret
    exact ⟨.inl rfl, rfl⟩
  by_cases b5 : 65536 < (n3 : Int)
  · go_wp2
    go_ret
    exact ⟨.inl rfl, rfl⟩
  go_wp2
  go_loop [9, 10] (fun b i => ∃ (k : Nat) (z : Int), k ≤ n3 ∧ i = .int .i64 k ∧ b = .int .i64 z ∧ 0 ≤ z ∧ z ≤ 4194304) (fun _ i => n3 - (intOf i).toNat)
  case atStart => exact ⟨0, _, by omega, rfl, rfl, by omega, by omega⟩
  case round =>
    obtain ⟨k, z, hk, rfl, rfl, hz0, hz1⟩ := hrel
    by_cases hgo : k < n3 ∧ z ≤ 1048576
    · obtain ⟨hlt, hzl⟩ := hgo
      rcases hs with h0 | ⟨Bp, op, rfl, hp'⟩
      · omega
      have g1 : w.cell? ⟨Bp, op + k, none⟩ = some (.string (S k)) := hp' k hlt
      have g2 := hS k hlt
      have hlt' : (k : Int) < n3 := by omega
      clear hp' hx hS
      go_wp2
      go_round
      case rel => exact ⟨k + 1, z + ((S k).size : Int), by omega, by go_num, rfl, by omega, by omega⟩
      case measure => simp [intOf]; omega
    · by_cases hbig : 1048576 < z
      · have hbig' : ¬ z ≤ 1048576 := by omega
        clear hx hs hS
        by_cases hlt : (k : Int) < n3
        · go_wp2
          go_ret
          exact ⟨.inl rfl, rfl⟩
        · go_wp2
          go_ret
          exact ⟨.inl rfl, rfl⟩
      · have hlt' : ¬ (k : Int) < n3 := by omega
        clear hs hS hgo
        by_cases e1 : (n2 : Int) = n1
        · by_cases e2 : (n3 : Int) = n1
          · go_wp2
            go_loop [11] (fun i => ∃ j : Nat, j ≤ n1 ∧ i = .int .i64 j ∧ Hid (∀ i, i < j → X i = 1 ∨ X i = 2)) (fun i => n1 - (intOf i).toNat)
            case atStart => exact ⟨0, by omega, rfl, fun i hi => by omega⟩
            case round =>
              obtain ⟨j, hj, rfl, HX⟩ := hrel
              by_cases hjl : j < n1
              · rcases hx with h0 | ⟨Bx, ox, rfl, hx'⟩
                · omega
                have g3 : w.cell? ⟨Bx, ox + j, none⟩ = some (.int .u8 (X j)) := hx' j hjl
                have hjl' : (j : Int) < n1 := by omega
                clear hx'
                have HX2 : X j = 1 ∨ X j = 2 → Hid (∀ i, i < j + 1 → X i = 1 ∨ X i = 2) := fun h i hi => by
                  by_cases e : i = j
                  · subst e; exact h
                  · exact HX.out i (by omega)
                by_cases x1 : X j = 1
                · have HX3 := HX2 (.inl x1)
                  clear HX2
                  rw [x1] at g3
                  go_wp2
                  go_round
                  case rel => exact ⟨j + 1, by omega, by go_num, HX3⟩
                  case measure => simp [intOf]; omega
                · by_cases x2 : X j = 2
                  · have HX3 := HX2 (.inr x2)
                    clear HX2
                    rw [x2] at g3
                    go_wp2
                    go_round
                    case rel => exact ⟨j + 1, by omega, by go_num, HX3⟩
                    case measure => simp [intOf]; omega
                  · clear HX2
                    have y1 : (X j != 1) = true := by simpa using x1
                    have y2 : (X j != 2) = true := by simpa using x2
                    go_wp2
                    go_ret
                    exact ⟨.inl rfl, rfl⟩
              · obtain rfl : n1 = j := by omega
                have hjl' : ¬ (n1 : Int) < n1 := by omega
                go_wp2
                go_ret
                exact ⟨.inr ⟨rfl, by omega, by omega, by omega, by omega, HX.out⟩, rfl⟩
          · go_wp2
            go_ret
            exact ⟨.inl rfl, rfl⟩
        · go_wp2
          go_ret
          exact ⟨.inl rfl, rfl⟩

end Go.Proofs.Qxb6003656a
