import Derived.Test.Qxb6002696aRows
import Derived.Test.Qxb6002696aNum
import Derived.WalkKit
import Derived.Below
import Derived.Deep.QuietTactic
import Derived.BigQuiet
import Derived.WalkLawsBesides
import Derived.WalkSpells
namespace Go.Proofs.Qxb6002696a
open Go.RowKit

/-- The reader behind the pointer: block R holds the slice, the position, the mark; the slice's bytes lie in a block below R. -/
structure Rd (w : World) (R : Nat) (sv : Option Addr) (n c : Nat) (pos : Nat) (bad : Bool) : Prop where
  c0 : w.cell? ⟨R, 0, none⟩ = some (.slice sv n c)
  c1 : w.cell? ⟨R, 1, none⟩ = some (.int .i64 (pos : Int))
  c2 : w.cell? ⟨R, 2, none⟩ = some (.bool bad)
  f1 : w.frozen? ⟨R, 1, none⟩ = false
  f2 : w.frozen? ⟨R, 2, none⟩ = false
  nle : n ≤ 65536
  nc : n ≤ c
  cle : c ≤ 65536
  ple : pos ≤ 8 * n
  bytes : ∀ i, i < n → ∃ B z, sv = some ⟨B, 0, none⟩ ∧ B < R ∧ w.cell? ⟨B, i, none⟩ = some (.int .u8 z) ∧ 0 ≤ z ∧ z ≤ 255

theorem Rd.setPos {w : World} {R : Nat} {sv : Option Addr} {n c pos : Nat} {bad : Bool} (h : Rd w R sv n c pos bad) (p : Nat) (hp : p ≤ 8 * n) (q : Int) (hq : q = (p : Int)) :
    Rd (w.setCell ⟨R, 1, none⟩ (.int .i64 q)) R sv n c p bad := by
  subst hq
  refine ⟨?_, ?_, ?_, ?_, ?_, h.nle, h.nc, h.cle, hp, fun i hi => ?_⟩
  · have := h.c0; go_simp
  · have := h.c1; go_simp
  · have := h.c2; go_simp
  · have := h.f1; go_simp
  · have := h.f2; go_simp
  · obtain ⟨B, z, h1, h2, h3, h4⟩ := h.bytes i hi
    refine ⟨B, z, h1, h2, ?_, h4⟩
    have e : B ≠ R := by omega
    go_simp
    
theorem Rd.setBad {w : World} {R : Nat} {sv : Option Addr} {n c pos : Nat} {bad : Bool} (h : Rd w R sv n c pos bad) (b : Bool)  :
    Rd (w.setCell ⟨R, 2, none⟩ (.bool b)) R sv n c pos b := by
  refine ⟨?_, ?_, ?_, ?_, ?_, h.nle, h.nc, h.cle, h.ple, fun i hi => ?_⟩
  · have := h.c0; go_simp
  · have := h.c1; go_simp
  · have := h.c2; go_simp
  · have := h.f1; go_simp
  · have := h.f2; go_simp
  · obtain ⟨B, z, h1, h2, h3, h4⟩ := h.bytes i hi
    refine ⟨B, z, h1, h2, ?_, h4⟩
    have e : B ≠ R := by omega
    go_simp

theorem Rd.drewN {w : World} {R : Nat} {sv : Option Addr} {n c pos : Nat} {bad : Bool} (h : Rd w R sv n c pos bad) (q : Nat) : Rd (w.drewN q) R sv n c pos bad := by
  refine ⟨?_, ?_, ?_, ?_, ?_, h.nle, h.nc, h.cle, h.ple, fun i hi => ?_⟩
  · have := h.c0; go_simp
  · have := h.c1; go_simp
  · have := h.c2; go_simp
  · have := h.f1; go_simp
  · have := h.f2; go_simp
  · obtain ⟨B, z, h1, h2, h3, h4⟩ := h.bytes i hi
    refine ⟨B, z, h1, h2, ?_, h4⟩
    go_simp

/-- The reader has gone on, in bounds; nothing below its block has turned. -/
def Next (w w' : World) (R : Nat) (sv : Option Addr) (n c pos : Nat) : Prop := ∃ (p : Nat) (b : Bool), Rd w' R sv n c p b ∧ Below R w w' ∧ pos ≤ p

/-- It returned one value. -/
def Ret (e : Ending) : Prop := ∃ v, e = .returned v

theorem bset {B : Nat} {a w : World} (h : Below B a w) (o : Nat) (u : Value) : Below B a (w.setCell ⟨B, o, none⟩ u) := h.setCell (p := ⟨B, o, none⟩) (Nat.le_refl _) u

set_option maxHeartbeats 400000 in
theorem align_any (w : World) (R : Nat) (sv : Option Addr) (n c pos : Nat) (bad : Bool) (h : Rd w R sv n c pos bad) :
    Calls Try.prog 45 #[.pointer (some ⟨R, 0, none⟩)] w fun e w' => e = .returned (.tuple #[]) ∧ ∃ p, Rd w' R sv n c p bad ∧ Below R w w' ∧ pos ≤ p ∧ p % 8 = 0 := by
  have c1 := h.c1
  have f1 := h.f1
  have p1 := h.ple
  have p2 := h.nle
  go_enter Try.func45, Try.ntmps45
  go_wp2
  go_end0
  exact ⟨rfl, 8 * ((pos + 7) / 8), h.setPos _ (by omega) _ (by have := andNot7 (pos + 7) (by omega); rw [← this]; norm_cast), bset (Below.refl _ _) _ _, by omega, by omega⟩

set_option maxHeartbeats 400000 in
theorem bits_bad (w : World) (R : Nat) (sv : Option Addr) (n c pos : Nat) (k : Int) (h : Rd w R sv n c pos true) :
    Calls Try.prog 39 #[.pointer (some ⟨R, 0, none⟩), .int .i64 k] w fun e w' => e = .returned (.int .u32 0) ∧ Rd w' R sv n c pos true ∧ Below R w w' := by
  have c2 := h.c2
  have f2 := h.f2
  go_enter Try.func39, Try.ntmps39
  go_wp2
  go_quiet (fail)
  go_wp2
  go_ret
  exact ⟨rfl, (h.drewN _).setBad _, bset (below_drewN (Below.refl _ _) _) _ _⟩

set_option maxHeartbeats 400000 in
theorem bits_short (w : World) (R : Nat) (sv : Option Addr) (n c pos : Nat) (k : Int) (h : Rd w R sv n c pos false) (hk : 8 * (n : Int) - pos < k) (hk2 : k ≤ 64) :
    Calls Try.prog 39 #[.pointer (some ⟨R, 0, none⟩), .int .i64 k] w fun e w' => e = .returned (.int .u32 0) ∧ Rd w' R sv n c pos true ∧ Below R w w' := by
  have c0 := h.c0
  have c1 := h.c1
  have c2 := h.c2
  have f2 := h.f2
  have p1 := h.ple
  have p2 := h.nle
  have hk' : (n : Int) * 8 - pos < k := by omega
  go_enter Try.func39, Try.ntmps39
  go_wp2
  go_quiet (fail)
  go_wp2
  go_ret
  exact ⟨rfl, (h.drewN _).setBad _, bset (below_drewN (Below.refl _ _) _) _ _⟩

set_option maxHeartbeats 400000 in
theorem bits_long (w : World) (R : Nat) (sv : Option Addr) (n c pos : Nat) (k : Nat) (h : Rd w R sv n c pos false) (hk : (k : Int) ≤ 8 * (n : Int) - pos) (hk2 : k ≤ 64) :
    Calls Try.prog 39 #[.pointer (some ⟨R, 0, none⟩), .int .i64 (k : Int)] w fun e w' => ∃ v : Int, e = .returned (.int .u32 v) ∧ 0 ≤ v ∧ v < 4294967296 ∧ Hid (k ≤ 1 → v ≤ 1) ∧ Rd w' R sv n c (pos + k) false ∧ Below R w w' := by
  have c0 := h.c0
  have c1 := h.c1
  have c2 := h.c2
  have f2 := h.f2
  have p1 := h.ple
  have p2 := h.nle
  have hk' : ¬ (n : Int) * 8 - pos < k := by omega
  go_enter Try.func39, Try.ntmps39
  go_wp2
  go_quiet (fail)
  go_wp2
  clear c0 c1 c2 f2
  go_loopw [5, 29] (fun v i wr => ∃ j : Nat, ∃ x : Int, j ≤ k ∧ i = .int .i64 j ∧ v = .int .u32 x ∧ 0 ≤ x ∧ x < 4294967296 ∧ Hid ((j = 0 → x = 0) ∧ (j ≤ 1 → x ≤ 1)) ∧ Rd wr R sv n c (pos + j) false ∧ Below R w wr) (fun _ i _ => k - (intOf i).toNat)
  case atStart => exact ⟨0, 0, Nat.zero_le _, rfl, rfl, by omega, by omega, ⟨fun _ => rfl, fun _ => by omega⟩, h.drewN _, below_drewN (Below.refl _ _) _⟩
  case round =>
    obtain ⟨j, x, hj, rfl, rfl, hx0, hx1, HX, hr, hb⟩ := hrel
    by_cases hlt : j < k
    · have hq : (pos + j) / 8 < n := by omega
      obtain ⟨B, z, rfl, hB, hz, hz0, hz1⟩ := hr.bytes _ hq
      have c0 := hr.c0
      have c1 := hr.c1
      have f1 := hr.f1
      have hq' : ((pos : Int) + j) / 8 < n := by omega
      have hq0 : 0 ≤ ((pos : Int) + j) / 8 := by omega
      go_wp2
      go_quiet (fail)
      go_wp2
      have hv := or_u32 (x * 2 % 4294967296) (bits BinOp.and IntKind.u8 (z / 2 ^ (7 - (pos + j) % 8)) 1 % 4294967296) (by omega) (by omega) (by omega) (by omega)
      go_roundw
      case rel => exact ⟨j + 1, _, by omega, by go_num, rfl, hv.1, hv.2, ⟨fun h => by omega, fun h => or_bit _ _ z (7 - (pos + j) % 8) (HX.out.1 (by omega)) hz0 hz1 rfl⟩, (hr.drewN _).setPos _ (by omega) _ (by omega), bset (below_drewN hb _) _ _⟩
      case measure => simp [intOf]; omega
    · go_wp2
      go_ret
      obtain rfl : j = k := by omega
      exact ⟨x, rfl, hx0, hx1, HX.out.2, hr, hb⟩

/-- bits, whatever the reader's state. -/
theorem bits_any (w : World) (R : Nat) (sv : Option Addr) (n c pos : Nat) (bad : Bool) (k : Int) (h : Rd w R sv n c pos bad) (hk0 : 0 ≤ k) (hk : k ≤ 64) :
    Calls Try.prog 39 #[.pointer (some ⟨R, 0, none⟩), .int .i64 k] w fun e w' => ∃ (v : Int) (p : Nat) (b : Bool), e = .returned (.int .u32 v) ∧ 0 ≤ v ∧ v < 4294967296 ∧ Hid (k ≤ 1 → v ≤ 1) ∧ Rd w' R sv n c p b ∧ Below R w w' ∧ pos ≤ p := by
  cases bad with
  | true => exact (bits_bad w R sv n c pos k h).mono fun e w' ⟨h1, h2, h3⟩ => ⟨0, pos, true, h1, by omega, by omega, fun _ => by omega, h2, h3, Nat.le_refl _⟩
  | false =>
    by_cases hs : 8 * (n : Int) - pos < k
    · exact (bits_short w R sv n c pos k h hs hk).mono fun e w' ⟨h1, h2, h3⟩ => ⟨0, pos, true, h1, by omega, by omega, fun _ => by omega, h2, h3, Nat.le_refl _⟩
    · obtain ⟨m, rfl⟩ := Int.eq_ofNat_of_zero_le hk0
      exact (bits_long w R sv n c pos m h (by omega) (by omega)).mono fun e w' ⟨v, h1, h2, h3, hx, h4, h5⟩ => ⟨v, pos + m, false, h1, h2, h3, fun hm => hx.out (by omega), h4, h5, by omega⟩

set_option maxHeartbeats 400000 in
theorem aligned_any (w : World) (R : Nat) (sv : Option Addr) (n c pos : Nat) (bad : Bool) (k : Int) (h : Rd w R sv n c pos bad) (hk0 : 0 ≤ k) (hk : k ≤ 64) :
    Calls Try.prog 44 #[.pointer (some ⟨R, 0, none⟩), .int .i64 k] w fun e w' => ∃ (v : Int) (p : Nat) (b : Bool), e = .returned (.int .u32 v) ∧ 0 ≤ v ∧ v < 4294967296 ∧ Rd w' R sv n c p b ∧ Below R w w' ∧ pos ≤ p := by
  go_enter Try.func44, Try.ntmps44
  go_wp2_with fail
  refine (align_any _ R sv n c pos bad h).mono ?_
  rintro e w1 ⟨rfl, p1, h1, b1, q1, -⟩
  go_wp2_with fail
  refine (bits_any _ R sv n c p1 bad k h1 hk0 hk).mono ?_
  rintro e w2 ⟨v, p2, b, rfl, hv0, hv1, -, h2, b2, q2⟩
  go_wp2
  go_ret
  exact ⟨v, p2, b, rfl, hv0, hv1, h2, b1.trans b2, by omega⟩

set_option maxHeartbeats 400000 in
theorem length_any (w : World) (R : Nat) (sv : Option Addr) (n c pos : Nat) (bad : Bool) (h : Rd w R sv n c pos bad) :
    Calls Try.prog 40 #[.pointer (some ⟨R, 0, none⟩)] w fun e w' => ∃ (v : Int) (p : Nat) (b : Bool), e = .returned (.int .i64 v) ∧ 0 ≤ v ∧ v < 1099511627776 ∧ Rd w' R sv n c p b ∧ Below R w w' ∧ pos ≤ p := by
  go_enter Try.func40, Try.ntmps40
  go_wp2_with fail
  refine (aligned_any _ R sv n c pos bad 8 h (by omega) (by omega)).mono ?_
  rintro e w1 ⟨v, p1, b1, rfl, hv0, hv1, h1, l1, q1⟩
  by_cases e1 : bits BinOp.and IntKind.u32 v 128 = 0
  · go_wp2
    go_ret
    exact ⟨v, p1, b1, rfl, by omega, by omega, h1, l1, q1⟩
  · by_cases e2 : bits BinOp.and IntKind.u32 v 192 = 128
    · have ha := and_u32 v 63 (by omega) (by omega) (by omega) (by omega)
      go_wp2_with fail
      refine (bits_any _ R sv n c p1 b1 8 h1 (by omega) (by omega)).mono ?_
      rintro e w2 ⟨v2, p2, b2, rfl, hx0, hx1, -, h2, l2, q2⟩
      go_wp2
      go_ret
      have hv := or_i64 (bits BinOp.and IntKind.u32 v 63 * 256) v2 (by omega) (by omega) hx0 (by omega)
      exact ⟨_, p2, b2, rfl, hv.1, hv.2, h2, l1.trans l2, by omega⟩
    · have f2 := h1.f2
      have c2 := h1.c2
      go_wp2
      go_ret
      exact ⟨0, p1, true, rfl, by omega, by omega, h1.setBad _, bset l1 _ _, by omega⟩

set_option maxHeartbeats 400000 in
theorem octets_any (w : World) (R : Nat) (sv : Option Addr) (n c pos : Nat) (bad : Bool) (k : Int) (h : Rd w R sv n c pos bad) (hk0 : 0 ≤ k) (hk : k < 1099511627776) :
    Calls Try.prog 42 #[.pointer (some ⟨R, 0, none⟩), .int .i64 k] w fun e w' => Ret e ∧ Next w w' R sv n c pos := by
  go_enter Try.func42, Try.ntmps42
  go_wp2_with fail
  refine (align_any _ R sv n c pos bad h).mono ?_
  rintro e w1 ⟨rfl, p1, h1, b1, q1, m1⟩
  have c0 := h1.c0
  have c1 := h1.c1
  have c2 := h1.c2
  have f1 := h1.f1
  have f2 := h1.f2
  have g1 := h1.ple
  have g2 := h1.nle
  have g3 := h1.nc
  have g4 := h1.cle
  cases bad with
  | true =>
    go_wp2
    go_quiet (fail)
    go_wp2
    go_ret
    exact ⟨⟨_, rfl⟩, p1, true, (h1.drewN _).setBad _, bset (below_drewN b1 _) _ _, q1⟩
  | false =>
    by_cases hs : (n : Int) - (p1 : Int) / 8 < k
    · go_wp2
      go_quiet (fail)
      go_wp2
      go_ret
      exact ⟨⟨_, rfl⟩, p1, true, (h1.drewN _).setBad _, bset (below_drewN b1 _) _ _, q1⟩
    · obtain ⟨m, rfl⟩ := Int.eq_ofNat_of_zero_le hk0
      have M : Hid (p1 % 8 = 0) := m1
      clear m1
      have hs' : (m : Int) ≤ (n : Int) - (p1 : Int) / 8 := by omega
      clear hs hk
      go_wp2
      go_quiet (fail)
      go_wp2
      have hs1 : (p1 : Int) / 8 + m ≤ n := by omega
      have hs2 : (p1 : Int) / 8 + m ≤ c := by omega
      have fin : ∀ q : Nat, Next w ((w1.drewN q).setCell ⟨R, 1, none⟩ (.int .i64 ((p1 : Int) + (m : Int) * 8))) R sv n c pos := fun q =>
        have hm := M.out
        ⟨p1 + m * 8, false, (h1.drewN q).setPos (p1 + m * 8) (by omega) _ (by omega), bset (below_drewN b1 _) _ _, by omega⟩
      have F : Hid (∀ q : Nat, Next w ((w1.drewN q).setCell ⟨R, 1, none⟩ (.int .i64 ((p1 : Int) + (m : Int) * 8))) R sv n c pos) := fin
      clear fin
      by_cases hcq : c = p1 / 8
      · subst hcq
        go_quiet (fail)
        go_wp2
        go_ret
        exact ⟨⟨_, rfl⟩, F.out _⟩
      · go_quiet (fail)
        go_wp2
        go_ret
        exact ⟨⟨_, rfl⟩, F.out _⟩

set_option maxHeartbeats 400000 in
theorem openType_any (w : World) (R : Nat) (sv : Option Addr) (n c pos : Nat) (bad : Bool) (h : Rd w R sv n c pos bad) :
    Calls Try.prog 41 #[.pointer (some ⟨R, 0, none⟩)] w fun e w' => Ret e ∧ Next w w' R sv n c pos := by
  go_enter Try.func41, Try.ntmps41
  go_wp2_with fail
  refine (length_any _ R sv n c pos bad h).mono ?_
  rintro e w1 ⟨v1, p1, bd1, rfl, hv0, hv1, h1, b1, q1⟩
  go_wp2_with fail
  refine (octets_any _ R sv n c p1 bd1 v1 h1 hv0 hv1).mono ?_
  rintro e w2 ⟨⟨v2, rfl⟩, p2, bd2, h2, b2, q2⟩
  clear hv1
  go_wp2
  go_ret
  exact ⟨⟨_, rfl⟩, p2, bd2, h2, b1.trans b2, by omega⟩

end Go.Proofs.Qxb6002696a
