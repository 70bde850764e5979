import Derived.Test.Qxb6600445aMark
namespace Go.Proofs.Qxb6600445a
open Go.RowKit Go.Maps

set_option maxHeartbeats 2000000 in
theorem mark_any (mb cm ob m : Nat) (G : Nat → Value) (succ : Nat → List Nat) (Z0 tp : Nat → Int) (b : Int) (w : World) (hS : SuccAt w ob m G succ) (hm : m ≤ 256) (hlen : ∀ u, u < m → (succ u).length ≤ 65536) (hv : ∀ u v, u < m → v ∈ succ u → v < m)
    (hrow : w.rowIs mb 5 (m * m) (fun c => .int .u8 (Z0 c))) (h1 : ∀ c, bits BinOp.or IntKind.u8 (Z0 c) b = tp c) (h2 : ∀ c, bits BinOp.or IntKind.u8 (tp c) b = tp c) :
    Calls Try.prog 23 #[.slice (some ⟨mb, 0, none⟩) (m * m) cm, .slice (some ⟨ob, 0, none⟩) m m, .int .i64 m, .int .u8 b] w fun e w' => e = .returned (.bool true) ∧ MarkSt w w' mb m succ Z0 tp m 0 := by
  obtain ⟨mcs, hmb⟩ := rowIs_block hrow
  have HS : Hid (∀ wr, Turned (fun b => b = mb) w wr → SuccAt wr ob m G succ) := fun wr ht => hS.same hmb (by decide) (by decide) (fun x hx hne => ht.block x hx hne)
  have HL : Hid (∀ u, u < m → (succ u).length ≤ 65536) := hlen
  have HV : Hid (∀ u v, u < m → v ∈ succ u → v < m) := hv
  have H1 : Hid (∀ c, bits BinOp.or IntKind.u8 (Z0 c) b = tp c) := h1
  have H2 : Hid (∀ c, bits BinOp.or IntKind.u8 (tp c) b = tp c) := h2
  have H0 : Hid (MarkSt w w mb m succ Z0 tp 0 0) := ⟨⟨rfl, rfl, rfl, Nat.le_refl _, fun _ _ _ => rfl⟩, Z0, hrow, fun x y hx hy => ⟨fun h => by
    rcases h with ⟨h, _⟩ | ⟨_, h⟩
    · omega
    · simp at h, fun _ => rfl⟩⟩
  clear hS hlen hv h1 h2 hrow hmb
  go_enter Try.func23, Try.ntmps23
  go_wp2
  go_loopw [9] (fun i wr => ∃ u : Nat, u ≤ m ∧ i = .int .i64 u ∧ MarkSt w wr mb m succ Z0 tp u 0) (fun i _ => m - (intOf i).toNat)
  case atStart => exact ⟨0, by omega, rfl, H0.out⟩
  case round =>
    rename World => wo
    obtain ⟨u, hu, rfl, hst⟩ := hrel
    by_cases hlt : u < m
    · have hlt' : (u : Int) < m := by omega
      obtain ⟨ga, cap, hG, hsl⟩ := row_slice ((HS.out wo hst.1).2 u hlt)
      have hll := HL.out u hlt
      have HST : Hid (MarkSt w wo mb m succ Z0 tp u 0) := hst
      have HG : Hid (G u = .slice ga (succ u).length cap) := hG
      clear hst hsl hG
      go_wp2
      go_loopw [10] (fun i wr => ∃ k : Nat, k ≤ (succ u).length ∧ i = .int .i64 k ∧ MarkSt w wr mb m succ Z0 tp u k) (fun i _ => (succ u).length - (intOf i).toNat)
      case atStart => exact ⟨0, by omega, rfl, HST.out⟩
      case round =>
        obtain ⟨k, hk, rfl, hst⟩ := hrel
        have hSu := HS.out wr hst.1
        have g1 : wr.cell? ⟨ob, u, none⟩ = some (.slice ga (succ u).length cap) := by rw [hSu.1.cell hlt, HG.out]
        by_cases hkl : k < (succ u).length
        · have hkl' : (k : Int) < (succ u).length := by omega
          obtain ⟨ga', cap', hG', hsl⟩ := row_slice (hSu.2 u hlt)
          rw [HG.out] at hG'
          simp only [Value.slice.injEq] at hG'
          obtain ⟨rfl, -, -⟩ := hG'
          rcases hsl with h0 | ⟨B, o, rfl, hc⟩
          · omega
          have g2 : wr.cell? ⟨B, o + k, none⟩ = some (.int .i64 ((succ u).getD k 0 : Nat)) := hc k hkl
          have hmem : (succ u).getD k 0 ∈ succ u := by
            rw [List.getD_eq_getElem?_getD, List.getElem?_eq_getElem hkl]
            exact List.getElem_mem _
          have hvm := HV.out u _ hlt hmem
          have htk : (succ u).take (k + 1) = (succ u).take k ++ [(succ u).getD k 0] := by
            rw [List.take_add_one, List.getD_eq_getElem?_getD, List.getElem?_eq_getElem hkl]
            rfl
          have HN : Hid (MarkSt w (wr.setCell ⟨mb, u * m + (succ u).getD k 0, none⟩ (.int .u8 (tp (u * m + (succ u).getD k 0)))) mb m succ Z0 tp u (k + 1)) := hst.step hlt hvm htk
          obtain ⟨ht, Z, hrow, hZ⟩ := id hst
          have hcl := cell_lt hlt hvm
          have r0 := hrow.cell hcl
          have z0 := hrow.frozen (u * m + (succ u).getD k 0)
          have hor : bits BinOp.or IntKind.u8 (Z (u * m + (succ u).getD k 0)) b = tp (u * m + (succ u).getD k 0) := by
            by_cases hD : Dn succ u k u ((succ u).getD k 0)
            · rw [(hZ u _ hlt hvm).1 hD, H2.out]
            · rw [(hZ u _ hlt hvm).2 hD, H1.out]
          generalize (succ u).getD k 0 = v at *
          have hum : u * m + v < 65536 := by
            have : m * m ≤ 256 * 256 := Nat.mul_le_mul hm hm
            omega
          clear hst hc hmem htk hrow hZ hSu ht
          have hc0 : ((u * m : Nat) : Int) = (u : Int) * m := Int.natCast_mul u m
          have m1 : 0 ≤ (u : Int) * m := by omega
          have m2 : (u : Int) * m ≤ 65536 := by omega
          have m3 : (u : Int) * m + v < ((m * m : Nat) : Int) := by omega
          have m4 : ((u : Int) * m + v).toNat = u * m + v := by omega
          have m5 : 0 ≤ (u : Int) * m + v := by omega
          have hvm' : ¬ (m : Int) ≤ v := by omega
          clear hc0
          go_wp2
          go_roundw
          case rel => exact ⟨k + 1, by omega, by go_num, HN.out⟩
          case measure => simp [intOf]; omega
        · obtain rfl : k = (succ u).length := by omega
          have hkl' : ¬ ((succ u).length : Int) < (succ u).length := by omega
          have HN : Hid (MarkSt w wr mb m succ Z0 tp (u + 1) 0) := hst.next
          clear hst hSu
          go_wp2
          go_roundw
          case rel => exact ⟨u + 1, by omega, by go_num, HN.out⟩
          case measure => simp [intOf]; omega
    · obtain rfl : m = u := by omega
      have hlt' : ¬ (m : Int) < m := by omega
      have HN : Hid (MarkSt w wo mb m succ Z0 tp m 0) := hst
      clear hst
      go_wp2
      go_ret
      exact ⟨rfl, HN.out⟩

end Go.Proofs.Qxb6600445a
