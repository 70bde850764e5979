import Derived.Test.Qxb6002696aPerA
namespace Go.Proofs.Qxb6002696a
open Go.RowKit

set_option maxHeartbeats 800000 in
theorem skipExt_any (w : World) (R : Nat) (sv : Option Addr) (n c pos : Nat) (bad : Bool) (h : Rd w R sv n c pos bad) :
    Calls Try.prog 36 #[.pointer (some ⟨R, 0, none⟩)] w fun e w' => e = .returned (.tuple #[]) ∧ Next w w' R sv n c pos := by
  go_enter Try.func36, Try.ntmps36
  go_wp2_with fail
  refine (bits_any _ R sv n c pos bad 1 h (by omega) (by omega)).mono ?_
  rintro e w1 ⟨v, p1, bd1, rfl, hv0, hv1, -, h1, b1, q1⟩
  by_cases hz : v = 0
  · subst hz
    go_wp2_with fail
    refine (bits_any _ R sv n c p1 bd1 6 h1 (by omega) (by omega)).mono ?_
    rintro e w2 ⟨v2, p2, bd2, rfl, hx0, hx1, -, h2, b2, q2⟩
    have l2 := b1.trans b2
    go_wp2
    clear h h1 b1 b2 hv0 hv1
    go_loopw [3, 15] (fun a i wr => ∃ (j : Nat) (x : Int) (p : Nat) (b : Bool), (j : Int) ≤ v2 + 1 ∧ i = .int .i64 j ∧ a = .int .i64 x ∧ 0 ≤ x ∧ x ≤ j ∧ Rd wr R sv n c p b ∧ Below R w wr ∧ pos ≤ p) (fun _ i _ => (v2 + 1).toNat - (intOf i).toNat)
    case atStart => exact ⟨0, 0, p2, bd2, by omega, rfl, rfl, by omega, by omega, h2, l2, by omega⟩
    case round =>
      obtain ⟨j, x, p, b, hj, rfl, rfl, hx, hxj, hr, hb, hp⟩ := hrel
      by_cases hlt : (j : Int) < v2 + 1
      · go_wp2_with fail
        refine (bits_any _ R sv n c p b 1 hr (by omega) (by omega)).mono ?_
        rintro e w3 ⟨v3, p3, bd3, rfl, hy0, hy1, HY, h3, b3, q3⟩
        have hy2 : v3 ≤ 1 := HY.out (by omega)
        go_wp2
        go_roundw
        case rel => exact ⟨j + 1, x + v3, p3, bd3, by omega, by go_num, rfl, by omega, by omega, h3, hb.trans b3, by omega⟩
        case measure => simp [intOf]; omega
      · go_wp2
        go_loopw [4] (fun i wr => ∃ (j2 : Nat) (p : Nat) (b : Bool), (j2 : Int) ≤ x ∧ i = .int .i64 j2 ∧ Rd wr R sv n c p b ∧ Below R w wr ∧ pos ≤ p) (fun i _ => x.toNat - (intOf i).toNat)
        case atStart => exact ⟨0, p, b, by omega, rfl, hr, hb, hp⟩
        case round =>
          clear hr hb hp
          obtain ⟨j2, p4, b4, hj2, rfl, hr, hb, hp⟩ := hrel
          have c2 := hr.c2
          by_cases hlt2 : (j2 : Int) < x
          · cases b4 with
            | true =>
              go_wp2
              go_end0
              exact ⟨rfl, p4, true, hr, hb, hp⟩
            | false =>
              go_wp2_with fail
              refine (openType_any _ R sv n c p4 false hr).mono ?_
              rintro e w3 ⟨⟨v3, rfl⟩, p5, bd5, h5, b5, q5⟩
              go_wp2
              go_roundw
              case rel => exact ⟨j2 + 1, p5, bd5, by omega, by go_num, h5, hb.trans b5, by omega⟩
              case measure => simp [intOf]; omega
          · have hd : decide ((j2 : Int) < x) = false := by simpa using hlt2
            go_wp2
            go_end0
            exact ⟨rfl, p4, b4, hr, hb, hp⟩
  · have hz' : (v == 0) = false := by simpa using hz
    go_wp2_with fail
    refine (length_any _ R sv n c p1 bd1 h1).mono ?_
    rintro e w2 ⟨v2, p2, bd2, rfl, hx0, hx1, h2, b2, q2⟩
    have l2 := b1.trans b2
    clear h h1 b1 b2 hv0 hv1
    go_wp2
    go_loopw [3, 15] (fun a i wr => ∃ (j : Nat) (x : Int) (p : Nat) (b : Bool), (j : Int) ≤ v2 ∧ i = .int .i64 j ∧ a = .int .i64 x ∧ 0 ≤ x ∧ x ≤ j ∧ Rd wr R sv n c p b ∧ Below R w wr ∧ pos ≤ p) (fun _ i _ => (v2).toNat - (intOf i).toNat)
    case atStart => exact ⟨0, 0, p2, bd2, by omega, rfl, rfl, by omega, by omega, h2, l2, by omega⟩
    case round =>
      obtain ⟨j, x, p, b, hj, rfl, rfl, hx, hxj, hr, hb, hp⟩ := hrel
      by_cases hlt : (j : Int) < v2
      · go_wp2_with fail
        refine (bits_any _ R sv n c p b 1 hr (by omega) (by omega)).mono ?_
        rintro e w3 ⟨v3, p3, bd3, rfl, hy0, hy1, HY, h3, b3, q3⟩
        have hy2 : v3 ≤ 1 := HY.out (by omega)
        go_wp2
        go_roundw
        case rel => exact ⟨j + 1, x + v3, p3, bd3, by omega, by go_num, rfl, by omega, by omega, h3, hb.trans b3, by omega⟩
        case measure => simp [intOf]; omega
      · go_wp2
        go_loopw [4] (fun i wr => ∃ (j2 : Nat) (p : Nat) (b : Bool), (j2 : Int) ≤ x ∧ i = .int .i64 j2 ∧ Rd wr R sv n c p b ∧ Below R w wr ∧ pos ≤ p) (fun i _ => x.toNat - (intOf i).toNat)
        case atStart => exact ⟨0, p, b, by omega, rfl, hr, hb, hp⟩
        case round =>
          clear hr hb hp
          obtain ⟨j2, p4, b4, hj2, rfl, hr, hb, hp⟩ := hrel
          have c2 := hr.c2
          by_cases hlt2 : (j2 : Int) < x
          · cases b4 with
            | true =>
              go_wp2
              go_end0
              exact ⟨rfl, p4, true, hr, hb, hp⟩
            | false =>
              go_wp2_with fail
              refine (openType_any _ R sv n c p4 false hr).mono ?_
              rintro e w3 ⟨⟨v3, rfl⟩, p5, bd5, h5, b5, q5⟩
              go_wp2
              go_roundw
              case rel => exact ⟨j2 + 1, p5, bd5, by omega, by go_num, h5, hb.trans b5, by omega⟩
              case measure => simp [intOf]; omega
          · have hd : decide ((j2 : Int) < x) = false := by simpa using hlt2
            go_wp2
            go_end0
            exact ⟨rfl, p4, b4, hr, hb, hp⟩

set_option maxHeartbeats 800000 in
theorem skipExt_bad (w : World) (R : Nat) (sv : Option Addr) (n c pos : Nat) (h : Rd w R sv n c pos true) :
    Calls Try.prog 36 #[.pointer (some ⟨R, 0, none⟩)] w fun e w' => e = .returned (.tuple #[]) ∧ Rd w' R sv n c pos true ∧ Below R w w' := by
  go_enter Try.func36, Try.ntmps36
  go_wp2_with fail
  refine (bits_bad _ R sv n c pos 1 h).mono ?_
  rintro e w1 ⟨rfl, h1, b1⟩
  go_wp2_with fail
  refine (bits_bad _ R sv n c pos 6 h1).mono ?_
  rintro e w2 ⟨rfl, h2, b2⟩
  have l2 := b1.trans b2
  clear h h1 b1 b2
  go_wp2
  go_loopw [3, 15] (fun a i wr => ∃ (j : Nat), j ≤ 1 ∧ i = .int .i64 j ∧ a = .int .i64 0 ∧ Rd wr R sv n c pos true ∧ Below R w wr) (fun _ i _ => 1 - (intOf i).toNat)
  case atStart => exact ⟨0, by omega, rfl, rfl, h2, l2⟩
  case round =>
    obtain ⟨j, hj, rfl, rfl, hr, hb⟩ := hrel
    by_cases hlt : (j : Int) < 1
    · go_wp2_with fail
      refine (bits_bad _ R sv n c pos 1 hr).mono ?_
      rintro e w3 ⟨rfl, h3, b3⟩
      go_wp2
      go_roundw
      case rel => exact ⟨j + 1, by omega, by go_num, rfl, h3, hb.trans b3⟩
      case measure => simp [intOf]; omega
    · go_wp2
      go_loopw [4] (fun i wr => i = .int .i64 0 ∧ Rd wr R sv n c pos true ∧ Below R w wr) (fun i _ => 0)
      case atStart => exact ⟨rfl, hr, hb⟩
      case round =>
        clear hr hb
        obtain ⟨rfl, hr, hb⟩ := hrel
        go_wp2
        go_end0
        exact ⟨rfl, hr, hb⟩

set_option maxHeartbeats 800000 in
theorem skipProt_any (w : World) (R : Nat) (sv : Option Addr) (n c pos : Nat) (bad : Bool) (h : Rd w R sv n c pos bad) :
    Calls Try.prog 43 #[.pointer (some ⟨R, 0, none⟩)] w fun e w' => e = .returned (.tuple #[]) ∧ Next w w' R sv n c pos := by
  go_enter Try.func43, Try.ntmps43
  go_wp2_with fail
  refine (aligned_any _ R sv n c pos bad 16 h (by omega) (by omega)).mono ?_
  rintro e w1 ⟨v, p1, bd1, rfl, hv0, hv1, h1, b1, q1⟩
  go_wp2
  go_loopw [3] (fun i wr => ∃ (j : Nat) (p : Nat) (b : Bool), (j : Int) ≤ v + 1 ∧ i = .int .i64 j ∧ Rd wr R sv n c p b ∧ Below R w wr ∧ pos ≤ p) (fun i _ => (v + 1).toNat - (intOf i).toNat)
  case atStart => exact ⟨0, p1, bd1, by omega, rfl, h1, b1, q1⟩
  case round =>
    clear h h1 b1 q1
    obtain ⟨j, p, b, hj, rfl, hr, hb, hp⟩ := hrel
    have c2 := hr.c2
    by_cases hlt : (j : Int) < v + 1
    · cases b with
      | true =>
        go_wp2
        go_end0
        exact ⟨rfl, p, true, hr, hb, hp⟩
      | false =>
        go_wp2_with fail
        refine (aligned_any _ R sv n c p false 16 hr (by omega) (by omega)).mono ?_
        rintro e w2 ⟨v2, p2, bd2, rfl, -, -, h2, b2, q2⟩
        go_wp2_with fail
        refine (bits_any _ R sv n c p2 bd2 2 h2 (by omega) (by omega)).mono ?_
        rintro e w3 ⟨v3, p3, bd3, rfl, -, -, -, h3, b3, q3⟩
        go_wp2_with fail
        refine (openType_any _ R sv n c p3 bd3 h3).mono ?_
        rintro e w4 ⟨⟨v4, rfl⟩, p4, bd4, h4, b4, q4⟩
        go_wp2
        go_roundw
        case rel => exact ⟨j + 1, p4, bd4, by omega, by go_num, h4, ((hb.trans b2).trans b3).trans b4, by omega⟩
        case measure => simp [intOf]; omega
    · have hd : decide ((j : Int) < v + 1) = false := by simpa using hlt
      go_wp2
      go_end0
      exact ⟨rfl, p, b, hr, hb, hp⟩

end Go.Proofs.Qxb6002696a
