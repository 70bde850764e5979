import Derived.Test.Qxb6002696aPerC
namespace Go.Proofs.Qxb6002696a
open Go.RowKit

set_option maxHeartbeats 400000 in
theorem zzB_any (w : World) (a : Option Addr) (len cap : Nat) (p b : Value) :
    Calls Try.prog 31 #[.slice a len cap, p, b] w fun e w' => (e = .returned (.bool true) ∨ e = .returned (.bool false)) ∧ w = w' := by
  by_cases h : (len : Int) ≤ 1048576
  · go_enter Try.func31, Try.ntmps31
    go_wp2
    go_ret
    exact ⟨.inl rfl, rfl⟩
  · have h' : 1048576 < (len : Int) := by omega
    go_enter Try.func31, Try.ntmps31
    go_wp2
    go_ret
    exact ⟨.inr rfl, rfl⟩

set_option maxHeartbeats 400000 in
theorem sns_shim_any (w : World) (R : Nat) (sv : Option Addr) (n c pos : Nat) (bad : Bool) (h : Rd w R sv n c pos bad) :
    Calls Try.prog 29 #[.pointer (some ⟨R, 0, none⟩)] w fun e w' => e = .returned (.tuple #[]) ∧ Next w w' R sv n c pos := by
  go_enter Try.func29, Try.ntmps29
  go_wp2_with fail
  refine (snssai_any _ R sv n c pos bad h).mono ?_
  rintro e w1 ⟨rfl, h1⟩
  go_wp2
  go_end0
  exact ⟨rfl, h1⟩

set_option maxHeartbeats 400000 in
theorem sns_shim_bad (w : World) (R : Nat) (sv : Option Addr) (n c pos : Nat) (h : Rd w R sv n c pos true) :
    Calls Try.prog 29 #[.pointer (some ⟨R, 0, none⟩)] w fun e w' => e = .returned (.tuple #[]) ∧ Rd w' R sv n c pos true ∧ Below R w w' := by
  go_enter Try.func29, Try.ntmps29
  go_wp2_with fail
  refine (snssai_bad _ R sv n c pos h).mono ?_
  rintro e w1 ⟨rfl, h1⟩
  go_wp2
  go_end0
  exact ⟨rfl, h1⟩

set_option maxHeartbeats 800000 in
theorem sns_walk (a0 : Option Addr) (len0 cap0 : Nat) (z0 : List Int) (a1 : Int) (a2 : Bool) (w : World) (w0 : IsRow .u8 w a0 len0 cap0 z0) :
    Calls Try.prog 10 #[.slice a0 len0 cap0, .int .i64 a1, .bool a2] w fun e w' => e = .returned (.bool true) ∧ Below w.heap.size w w' := by
  go_enter Try.func10, Try.ntmps10
  go_wp2_with fail
  refine (zzB_any w a0 len0 cap0 _ _).mono ?_
  rintro e wz ⟨rfl | rfl, rfl⟩
  · by_cases hl : 65536 < (len0 : Int)
    · go_wp2
      go_ret
      exact ⟨rfl, Below.refl _ _⟩
    · by_cases hn : a1 < 0
      · go_wp2
        go_ret
        exact ⟨rfl, Below.refl _ _⟩
      · by_cases hm : 8 * (len0 : Int) < a1
        · have hn' : decide (a1 < 0) = false := by simpa using hn
          go_wp2
          go_ret
          exact ⟨rfl, Below.refl _ _⟩
        · obtain ⟨pos, rfl⟩ := Int.eq_ofNat_of_zero_le (show 0 ≤ a1 by omega)
          have hl' : (len0 : Int) ≤ 65536 := by omega
          have hm' : (pos : Int) ≤ 8 * (len0 : Int) := by omega
          have hn' : decide ((pos : Int) < 0) = false := by simp
          clear hl hm hn
          go_wp2_with fail
          refine (clone_any w a0 len0 cap0 z0 w0 (by omega)).mono ?_
          rintro e w1 ⟨sv, c, rfl, b1, k1, k2, k3⟩
          go_wp2_with fail
          refine (new_any w1 sv len0 c _ _).mono ?_
          rintro e w2 ⟨rfl, hw2⟩
          have hR : Rd w2 w1.heap.size sv len0 c pos a2 := by
            rw [hw2]
            refine ⟨by go_simp, by go_simp, by go_simp, by go_simp, by go_simp, by omega, k1, k2, by omega, fun i hi => ?_⟩
            obtain ⟨B, z, e1, e2, e3, e4⟩ := k3 i hi
            refine ⟨B, z, e1, e2, ?_, e4⟩
            rw [World.cell?_alloc_lt _ _ _ e2]
            exact e3
          have b2 : Below w.heap.size w w2 := by rw [hw2]; exact b1.alloc b1.size _
          have s2 : w.heap.size ≤ w1.heap.size := b1.size
          clear hw2 k3 w0
          cases a2 with
          | true =>
            go_wp2_with fail
            refine (sns_shim_bad _ _ _ _ _ _ hR).mono ?_
            rintro e w3 ⟨rfl, h3, b3⟩
            go_wp2_with fail
            refine (state_any _ _ _ _ _ _ _ h3).mono ?_
            rintro e w4 ⟨rfl, b4⟩
            go_wp2
            go_ret
            exact ⟨by simp, (b2.trans (b3.mono s2)).trans (b4.mono (Nat.le_trans b2.size b3.size))⟩
          | false =>
            go_wp2_with fail
            refine (sns_shim_any _ _ _ _ _ _ _ hR).mono ?_
            rintro e w3 ⟨rfl, p3, bd3, h3, b3, q3⟩
            have r3 := h3.ple
            go_wp2_with fail
            refine (state_any _ _ _ _ _ _ _ h3).mono ?_
            rintro e w4 ⟨rfl, b4⟩
            have r4 : (pos : Int) ≤ p3 := by omega
            have r5 : (p3 : Int) ≤ 8 * (len0 : Int) := by omega
            go_wp2
            go_ret
            exact ⟨by simp, (b2.trans (b3.mono s2)).trans (b4.mono (Nat.le_trans b2.size b3.size))⟩
  · go_wp2
    go_ret
    exact ⟨rfl, Below.refl _ _⟩

end Go.Proofs.Qxb6002696a
