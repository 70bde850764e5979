import Derived.Test.Qxb6003656aBuild
namespace Go.Proofs.Qxb6003656a
open Go.RowKit

set_option maxHeartbeats 1000000 in
theorem same_any (p : ByteArray) (t : Int) (l : Nat) (a1 a2 : Option Addr) (c1 c2 : Nat) (S : Nat → ByteArray) (w : World)
   (h1 : SlV w a1 l (fun j => .string (S j))) (h2 : SlV w a2 l (fun j => .string (S j))) (hl : l ≤ 1048576) :
    Calls Try.prog 15 #[.agg #[.string p, .slice a1 l c1, .int .i64 t], .agg #[.string p, .slice a2 l c2, .int .i64 t]] w fun e w' => e = .returned (.bool true) ∧ Below w.heap.size w w' := by
  have H1 : Hid (SlV w a1 l (fun j => .string (S j))) := h1
  have H2 : Hid (SlV w a2 l (fun j => .string (S j))) := h2
  clear h1 h2
  go_enter Try.func15, Try.ntmps15
  go_wp2
  go_loopw [5] (fun i wr => ∃ k q : Nat, k ≤ l ∧ i = .int .i64 k ∧ wr = ((w.alloc (.cells #[.string p, .slice a1 l c1, .int .i64 t] 38)).alloc (.cells #[.string p, .slice a2 l c2, .int .i64 t] 38)).drewN q) (fun i _ => l - (intOf i).toNat)
  case atStart => exact ⟨0, 0, by omega, rfl, rfl⟩
  case round =>
    obtain ⟨k, q, hk, rfl, rfl⟩ := hrel
    by_cases hlt : k < l
    · rcases H1.out with h0 | ⟨B1, o1, rfl, k1⟩
      · omega
      rcases H2.out with h0 | ⟨B2, o2, rfl, k2⟩
      · omega
      have x1 : B1 < w.heap.size := World.block_lt_of_cell? _ _ (k1 k hlt)
      have x2 : B2 < w.heap.size := World.block_lt_of_cell? _ _ (k2 k hlt)
      have g1 : (((w.alloc (.cells #[.string p, .slice (some ⟨B1, o1, none⟩) l c1, .int .i64 t] 38)).alloc (.cells #[.string p, .slice (some ⟨B2, o2, none⟩) l c2, .int .i64 t] 38))).cell? ⟨B1, o1 + k, none⟩ = some (.string (S k)) := by
        rw [World.cell?_alloc_lt _ _ _ (by simp; omega), World.cell?_alloc_lt _ _ _ x1]; exact k1 k hlt
      have g2 : (((w.alloc (.cells #[.string p, .slice (some ⟨B1, o1, none⟩) l c1, .int .i64 t] 38)).alloc (.cells #[.string p, .slice (some ⟨B2, o2, none⟩) l c2, .int .i64 t] 38))).cell? ⟨B2, o2 + k, none⟩ = some (.string (S k)) := by
        rw [World.cell?_alloc_lt _ _ _ (by simp; omega), World.cell?_alloc_lt _ _ _ x2]; exact k2 k hlt
      have hlt' : (k : Int) < l := by omega
      clear k1 k2
      go_wp2
      go_quiet (fail)
      go_wp2
      go_roundw
      case rel => exact ⟨k + 1, q + nq, by omega, by go_num, by simp⟩
      case measure => simp [intOf]; omega
    · have hlt' : ¬ (k : Int) < l := by omega
      go_wp2
      go_ret
      exact ⟨rfl, below_drewN (((Below.refl _ _).alloc (Nat.le_refl _) _).alloc (by simp) _) _⟩

/-- Only draws. -/
def Drawn (w w' : World) : Prop := ∃ q, w' = w.drewN q

set_option maxHeartbeats 2000000 in
theorem matches_any (a ap aq at3 : Option Addr) (n c cp ca ct : Nat) (P : Nat → ByteArray) (A : Nat → Option Addr) (L C : Nat → Nat) (A' : Nat → Option Addr) (C' : Nat → Nat) (T : Nat → Int) (S : Nat → Nat → ByteArray) (w : World)
   (hn : n ≤ 65536) (hin : IN w ap aq at3 n P A L C T S) (h : CA w a n P A' L C' T S) :
    Calls Try.prog 16 #[.slice a n c, .slice ap n cp, .slice aq n ca, .slice at3 n ct] w fun e w' => e = .returned (.bool true) ∧ Drawn w w' := by
  go_enter Try.func16, Try.ntmps16
  go_wp2
  go_loopw [9] (fun i wr => ∃ k q : Nat, k ≤ n ∧ i = .int .i64 k ∧ wr = w.drewN q) (fun i _ => n - (intOf i).toNat)
  case atStart => exact ⟨0, 0, by omega, rfl, rfl⟩
  case round =>
    obtain ⟨k, q, hk, rfl, rfl⟩ := hrel
    by_cases hlt : k < n
    · rcases hin.procs with h0 | ⟨Bp, op, rfl, hp⟩
      · omega
      rcases hin.args with h0 | ⟨Ba, oa, rfl, ha⟩
      · omega
      rcases hin.stamps with h0 | ⟨Bs, os, rfl, hs⟩
      · omega
      rcases h with h0 | ⟨B, o, rfl, hc⟩
      · omega
      obtain ⟨⟨d0, d1, d2⟩, hsl', -⟩ := hc k hlt
      obtain ⟨hsl, -, hL⟩ := hin.strs k hlt
      have g1 : w.cell? ⟨Bp, op + k, none⟩ = some (.string (P k)) := hp k hlt
      have g2 : w.cell? ⟨Ba, oa + k, none⟩ = some (.slice (A k) (L k) (C k)) := ha k hlt
      have g3 : w.cell? ⟨Bs, os + k, none⟩ = some (.int .i64 (T k)) := hs k hlt
      have hlt' : (k : Int) < n := by omega
      have H1 : Hid (SlV w (A k) (L k) (fun j => .string (S k j))) := hsl
      have H2 : Hid (SlV w (A' k) (L k) (fun j => .string (S k j))) := hsl'
      clear hp ha hs hc hsl hsl' hin
      go_wp2
      go_quiet (fail)
      go_wp2
      go_loopw [10] (fun i wr => ∃ j q : Nat, j ≤ L k ∧ i = .int .i64 j ∧ wr = w.drewN q) (fun i _ => L k - (intOf i).toNat)
      case atStart => exact ⟨0, q + nq, by omega, rfl, by simp⟩
      case round =>
        obtain ⟨j, q2, hj, rfl, rfl⟩ := hrel
        by_cases hjl : j < L k
        · rcases H1.out with h0 | ⟨B1, o1, e1, k1⟩
          · omega
          rcases H2.out with h0 | ⟨B2, o2, e2, k2⟩
          · omega
          rw [e1] at g2
          rw [e2] at d1
          have g4 := k1 j hjl
          have g5 := k2 j hjl
          have hjl' : (j : Int) < L k := by omega
          clear k1 k2 e1 e2
          go_wp2
          go_quiet (fail)
          go_wp2
          go_roundw
          case rel => exact ⟨j + 1, q2 + nq, by omega, by go_num, by simp⟩
          case measure => simp [intOf]; omega
        · have hjl' : ¬ (j : Int) < L k := by omega
          go_wp2
          go_roundw
          case rel => exact ⟨k + 1, q2, by omega, by go_num, rfl⟩
          case measure => simp [intOf]; omega
    · have hlt' : ¬ (k : Int) < n := by omega
      go_wp2
      go_ret
      exact ⟨rfl, q, rfl⟩

end Go.Proofs.Qxb6003656a
