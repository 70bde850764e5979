import Derived.Test.Qxb6600445aGuardA
namespace Go.Proofs.Qxb6600445a
open Go.RowKit Go.Maps

theorem bytes_ne {a b : ByteArray} (h : a ≠ b) : (a.toList == b.toList) = false := by
  rw [ByteArray.toList_eq, ByteArray.toList_eq]
  simp only [beq_eq_false_iff_ne, ne_eq]
  exact fun e => h (ByteArray.ext (Array.ext' e))

/-- The domain said no, or yes and it holds. -/
def Dom (e : Ending) (m n1 n2 n3 : Nat) (X : Nat → ByteArray) (T : Nat → Nat) : Prop :=
  e = .returned (.bool false) ∨ (e = .returned (.bool true) ∧ n2 = n1 ∧ n3 = n1 ∧ (∀ i, i < n1 → T i < m) ∧ ∀ i, i < m → ∀ j, j < i → X i ≠ X j)

set_option maxHeartbeats 2000000 in
theorem domain_any (ax a1 a2 a3 : Option Addr) (m n1 n2 n3 cx c1 c2 c3 : Nat) (X : Nat → ByteArray) (T : Nat → Nat) (S : Nat → ByteArray) (w : World) (hx : SlV w ax m (fun i => .string (X i))) (ht : SlV w a1 n1 (fun i => .int .u16 (T i))) (hs : SlV w a3 n3 (fun i => .string (S i)))
   (hm : m ≤ 256) (h1 : n1 ≤ 4096) (h2 : n2 ≤ 4096) (h3 : n3 ≤ 4096) (hX : ∀ i, i < m → (X i).size ≤ 1048576) (hS : ∀ i, i < n3 → (S i).size ≤ 1048576) (hT : ∀ i, i < n1 → T i < 65536) :
    Calls Try.prog 18 #[.slice ax m cx, .slice a1 n1 c1, .slice a2 n2 c2, .slice a3 n3 c3] w fun e w' => Dom e m n1 n2 n3 X T ∧ Below w.heap.size w w' := by
  go_enter Try.func18, Try.ntmps18
  have HX : Hid (SlV w ax m (fun i => .string (X i))) := hx
  have HT : Hid (SlV w a1 n1 (fun i => .int .u16 (T i))) := ht
  have HS : Hid (SlV w a3 n3 (fun i => .string (S i))) := hs
  have KX : Hid (∀ i, i < m → (X i).size ≤ 1048576) := hX
  have KS : Hid (∀ i, i < n3 → (S i).size ≤ 1048576) := hS
  have KT : Hid (∀ i, i < n1 → T i < 65536) := hT
  clear hx ht hs hX hS hT
  by_cases e1 : (n1 : Int) = n2
  · by_cases e2 : (n3 : Int) = n1
    · obtain rfl : n2 = n1 := by omega
      obtain rfl : n3 = n2 := by omega
      clear e1 e2
      go_wp2_with (go_at_call 10; refine (strBytes_any ax m cx X w HX.out (by omega) KX.out).mono ?_)
      rintro e w' ⟨z, rfl, hz0, hz1, rfl⟩
      go_wp2_with (go_at_call 10; refine (strBytes_any a3 n3 c3 S w HS.out (by omega) KS.out).mono ?_)
      rintro e w' ⟨z2, rfl, hz2, hz3, rfl⟩
      by_cases hbig : 1048576 < z + 2 * n3 + n3 + z2
      · go_wp2
        go_ret
        exact ⟨.inl rfl, Below.refl _ _⟩
      · clear KX KS HS
        go_wp2
        go_loop [9] (fun i => ∃ k : Nat, k ≤ n3 ∧ i = .int .i64 k ∧ Hid (∀ i, i < k → T i < m)) (fun i => n3 - (intOf i).toNat)
        case atStart => exact ⟨0, by omega, rfl, fun i hi => by omega⟩
        case round =>
          obtain ⟨k, hk, rfl, HP⟩ := hrel
          by_cases hlt : k < n3
          · obtain ⟨B, o, rfl, hc⟩ : ∃ B o, a1 = some ⟨B, o, none⟩ ∧ ∀ i, i < n3 → w.cell? ⟨B, o + i, none⟩ = some (.int .u16 (T i)) := by
              rcases HT.out with h0 | h0
              · omega
              · exact h0
            have g1 := hc k hlt
            have hlt' : (k : Int) < n3 := by omega
            have hTk := KT.out k hlt
            clear hc
            by_cases hin : T k < m
            · have hin' : ¬ (m : Int) ≤ T k := by omega
              have HP2 : Hid (∀ i, i < k + 1 → T i < m) := fun i hi => by
                by_cases e : i = k
                · subst e; exact hin
                · exact HP.out i (by omega)
              go_wp2
              go_round
              case rel => exact ⟨k + 1, by omega, by go_num, HP2⟩
              case measure => simp [intOf]; omega
            · have hin' : (m : Int) ≤ T k := by omega
              go_wp2
              go_ret
              exact ⟨.inl rfl, Below.refl _ _⟩
          · obtain rfl : n3 = k := by omega
            have hlt' : ¬ (n3 : Int) < n3 := by omega
            go_wp2
            go_loopw [10] (fun i wr => ∃ k q : Nat, k ≤ m ∧ i = .int .i64 k ∧ wr = w.drewN q ∧ Hid (∀ i, i < k → ∀ j, j < i → X i ≠ X j)) (fun i _ => m - (intOf i).toNat)
            case atStart => exact ⟨0, 0, by omega, rfl, rfl, fun i hi => by omega⟩
            case round =>
              obtain ⟨k, q, hk, rfl, rfl, HD⟩ := hrel
              by_cases hlt : k < m
              · have hlt' : (k : Int) < m := by omega
                go_wp2
                go_loopw [11] (fun i wr => ∃ j q : Nat, j ≤ k ∧ i = .int .i64 j ∧ wr = w.drewN q ∧ Hid (∀ i, i < j → X k ≠ X i)) (fun i _ => k - (intOf i).toNat)
                case atStart => exact ⟨0, q, by omega, rfl, rfl, fun i hi => by omega⟩
                case round =>
                  obtain ⟨j, q', hj, rfl, rfl, HE⟩ := hrel
                  by_cases hjk : j < k
                  · have hjk' : (j : Int) < k := by omega
                    have hjm : (j : Int) < m := by omega
                    obtain ⟨B, o, rfl, hc⟩ : ∃ B o, ax = some ⟨B, o, none⟩ ∧ ∀ i, i < m → w.cell? ⟨B, o + i, none⟩ = some (.string (X i)) := by
                      rcases HX.out with h0 | h0
                      · omega
                      · exact h0
                    have g1 := hc k hlt
                    have g2 := hc j (by omega)
                    clear hc
                    by_cases hxx : X k = X j
                    · rw [← hxx] at g2
                      go_wp2
                      go_quiet (fail)
                      go_wp2
                      go_ret
                      exact ⟨.inl rfl, below_drewN (below_drewN (Below.refl _ _) _) _⟩
                    · have hb := bytes_ne hxx
                      have HE2 : Hid (∀ i, i < j + 1 → X k ≠ X i) := fun i hi => by
                        by_cases e : i = j
                        · subst e; exact hxx
                        · exact HE.out i (by omega)
                      go_wp2
                      go_quiet (fail)
                      go_wp2
                      go_roundw
                      case rel => exact ⟨j + 1, q' + nq, by omega, by go_num, by simp, HE2⟩
                      case measure => simp [intOf]; omega
                  · obtain rfl : k = j := by omega
                    have hjk' : ¬ (k : Int) < k := by omega
                    have HD2 : Hid (∀ i, i < k + 1 → ∀ j, j < i → X i ≠ X j) := fun i hi => by
                      by_cases e : i = k
                      · subst e; exact HE.out
                      · exact HD.out i (by omega)
                    go_wp2
                    go_roundw
                    case rel => exact ⟨k + 1, q', by omega, by go_num, rfl, HD2⟩
                    case measure => simp [intOf]; omega
              · obtain rfl : m = k := by omega
                have hlt' : ¬ (m : Int) < m := by omega
                go_wp2
                go_ret
                exact ⟨.inr ⟨rfl, rfl, rfl, HP.out, HD.out⟩, below_drewN (Below.refl _ _) _⟩
    · go_wp2
      go_ret
      exact ⟨.inl rfl, Below.refl _ _⟩
  · go_wp2
    go_ret
    exact ⟨.inl rfl, Below.refl _ _⟩

end Go.Proofs.Qxb6600445a
