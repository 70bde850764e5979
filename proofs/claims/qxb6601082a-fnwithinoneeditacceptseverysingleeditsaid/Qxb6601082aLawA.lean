import Derived.Test.Qxb6601082aSteps
namespace Go.Proofs.Qxb6601082a
open Go.RowKit

set_option maxHeartbeats 4000000 in
set_option maxRecDepth 100000 in
theorem single_walk (a0 : Option Addr) (n cap0 : Nat) (z0 : List Int) (a1 : Int) (x : Int) (w : World) (w0 : IsRow .i32 w a0 n cap0 z0) :
    Calls Try.prog 10 #[.slice a0 n cap0, .int .i64 a1, .int .i32 x] w fun e w' => e = .returned (.bool true) ∧ Below w.heap.size w w' := by
  go_enter Try.func10, Try.ntmps10
  go_wp2_with fail
  refine (zz10_any w a0 n cap0 _ _).mono ?_
  rintro e wz ⟨rfl | rfl, rfl⟩
  · by_cases hl : 65536 < (n : Int)
    · go_wp2
      go_ret
      exact ⟨rfl, Below.refl _ _⟩
    · by_cases hn : a1 < 0
      · go_wp2
        go_ret
        exact ⟨rfl, Below.refl _ _⟩
      · by_cases hm : (n : Int) < a1
        · have hn' : decide (a1 < 0) = false := by simpa using hn
          go_wp2
          go_ret
          exact ⟨rfl, Below.refl _ _⟩
        · obtain ⟨k, rfl⟩ := Int.eq_ofNat_of_zero_le (show 0 ≤ a1 by omega)
          have hl' : (n : Int) ≤ 65536 := by omega
          have hm' : (k : Int) ≤ (n : Int) := by omega
          have hn' : decide ((k : Int) < 0) = false := by simp
          have hk : k ≤ n := by omega
          have hmk1 : ∀ w : World, (Instr.makeSlice 34 (.int .i64 ((n : Int) + 1)) (.int .i64 ((n : Int) + 1))).run Try.prog w = .ok (.slice (some ⟨w.heap.size, 0, none⟩) (n + 1) (n + 1)) (w.alloc (.cells (madeCells #[.int .i32 0] (n + 1)) 21)) := fun w =>
            run_make_row' (P := Try.prog) 34 21 (.int .i32 0) 4 Try.underlying34 Try.info21 rfl .i64 .i64 (n + 1) (by omega) (by omega) w
          have hmk2 : ∀ w : World, (Instr.makeSlice 34 (.int .i64 ((n : Int) + 2)) (.int .i64 ((n : Int) + 2))).run Try.prog w = .ok (.slice (some ⟨w.heap.size, 0, none⟩) (n + 2) (n + 2)) (w.alloc (.cells (madeCells #[.int .i32 0] (n + 2)) 21)) := fun w =>
            run_make_row' (P := Try.prog) 34 21 (.int .i32 0) 4 Try.underlying34 Try.info21 rfl .i64 .i64 (n + 2) (by omega) (by omega) w
          have hmk0 : ∀ w : World, (Instr.makeSlice 34 (.int .i64 (n : Int)) (.int .i64 (n : Int))).run Try.prog w = .ok (.slice (some ⟨w.heap.size, 0, none⟩) n n) (w.alloc (.cells (madeCells #[.int .i32 0] n) 21)) := fun w =>
            run_make_row' (P := Try.prog) 34 21 (.int .i32 0) 4 Try.underlying34 Try.info21 rfl .i64 .i64 n (by omega) (by omega) w
          have hmkm : k < n → ∀ w : World, (Instr.makeSlice 34 (.int .i64 ((n : Int) - 1)) (.int .i64 ((n : Int) - 1))).run Try.prog w = .ok (.slice (some ⟨w.heap.size, 0, none⟩) (n - 1) (n - 1)) (w.alloc (.cells (madeCells #[.int .i32 0] (n - 1)) 21)) := fun hkn w => by
            have := run_make_row' (P := Try.prog) 34 21 (.int .i32 0) 4 Try.underlying34 Try.info21 rfl .i64 .i64 (n - 1) (by omega) (by omega) w
            rw [show ((n - 1 : Nat) : Int) = (n : Int) - 1 by omega] at this
            exact this
          clear hl hm hn
          go_wp2_with fail
          refine (copy_any w a0 n cap0 z0 w0 (by omega)).mono ?_
          rintro e w1 ⟨sv, c, F, rfl, H⟩
          have hst0 : St w w1 sv n c F := ⟨H.out.1, H.out.2⟩
          clear H w0
          go_wp2_with fail
          refine (within_any _ _ _ _ _ _ _ _ _ hst0.sl hst0.sl).mono ?_
          rintro e wd ⟨he, hd⟩
          obtain rfl := he.yes (edit_self n F)
          have hst := hst0.drawn hd
          clear hst0 hd he
          go_wp2
          have hbel0 : Below wd.heap.size wd (wd.alloc (.cells (madeCells #[.int .i32 0] (n + 1)) 21)) := (Below.refl _ _).alloc (Nat.le_refl _) _
          have hrow0 := (World.rowIs_made wd (.int .i32 0) (n + 1) 21).congr (g := fun j => .int .i32 (cpG F 0 j)) (fun i _ => cp_start F i)
          go_loopw [9] (fun i wr => ∃ t : Nat, 0 ≤ t ∧ t ≤ k ∧ i = .int .i64 t ∧ Below wd.heap.size wd wr ∧ wr.rowIs wd.heap.size 21 (n + 1) (fun j => .int .i32 (cpG F t j))) (fun i _ => k - (intOf i).toNat)
          case atStart => exact ⟨0, by omega, by omega, rfl, hbel0, hrow0⟩
          case round =>
            obtain ⟨t, ht0, ht, rfl, hbel, hrow⟩ := hrel
            by_cases hlt : t < k
            · have hlt' : (t : Int) < k := by omega
              rcases hst.sl.2.2 with h0 | ⟨B, o, rfl, hc⟩
              · omega
              have g1 := (hbel.cell (p := ⟨B, o + t, none⟩) (World.block_lt_of_cell? _ _ (hc t (by omega)))).trans (hc t (by omega))
              have g2 := hrow.cell (i := t) (by omega)
              have g3 := hrow.frozen (t)
              clear hc hrow0 hbel0
              go_wp2
              go_roundw
              case rel => exact ⟨t + 1, by omega, by omega, by go_num, hbel.setCell (p := ⟨wd.heap.size, t, none⟩) (Nat.le_refl _) _, (hrow.set (t) _).congr (fun j hj => cp_step F t j)⟩
              case measure => simp [intOf]; omega
            · obtain rfl : k = t := by omega
              clear hrow0 hbel0
              have k0 := hrow.cell (i := k) (by omega)
              have k2 := hrow.frozen k
              go_wp2
              have hbel0 := hbel.setCell (p := ⟨wd.heap.size, k, none⟩) (Nat.le_refl _) (.int .i32 x)
              have hrow0 := (hrow.set k (.int .i32 x)).congr (g := fun j => .int .i32 (insH F k x k j)) (fun j _ => ins_start F k x j)
              clear hbel hrow k0 k2
              go_loopw [10] (fun i wr => ∃ t : Nat, k ≤ t ∧ t ≤ n ∧ i = .int .i64 t ∧ Below wd.heap.size wd wr ∧ wr.rowIs wd.heap.size 21 (n + 1) (fun j => .int .i32 (insH F k x t j))) (fun i _ => n - (intOf i).toNat)
              case atStart => exact ⟨k, by omega, by omega, rfl, hbel0, hrow0⟩
              case round =>
                obtain ⟨t, ht0, ht, rfl, hbel, hrow⟩ := hrel
                by_cases hlt : t < n
                · have hlt' : (t : Int) < n := by omega
                  rcases hst.sl.2.2 with h0 | ⟨B, o, rfl, hc⟩
                  · omega
                  have g1 := (hbel.cell (p := ⟨B, o + t, none⟩) (World.block_lt_of_cell? _ _ (hc t (by omega)))).trans (hc t (by omega))
                  have g2 := hrow.cell (i := t + 1) (by omega)
                  have g3 := hrow.frozen (t + 1)
                  clear hc hrow0 hbel0
                  go_wp2
                  go_roundw
                  case rel => exact ⟨t + 1, by omega, by omega, by go_num, hbel.setCell (p := ⟨wd.heap.size, t + 1, none⟩) (Nat.le_refl _) _, (hrow.set (t + 1) _).congr (fun j hj => ins_step F k x t j ht0)⟩
                  case measure => simp [intOf]; omega
                · obtain rfl : n = t := by omega
                  clear hrow0 hbel0
                  have hst2 : St w wr sv n c F := hst.next hbel
                  have hsl2 : Sl wr (some ⟨wd.heap.size, 0, none⟩) (n + 1) (n + 1) (insH F k x n) := slOfRow hrow (by omega)
                  go_wp2_with fail
                  refine (within_any _ _ _ _ _ _ _ _ _ hst2.sl hsl2).mono ?_
                  rintro e w5 ⟨he, hd⟩
                  obtain rfl := he.yes (edit_ins n k F x hk)
                  have hst3 := hst2.drawn hd
                  have hsl3 := hsl2.drawn hd
                  clear hst2 hsl2 hd he
                  go_wp2_with fail
                  refine (within_any _ _ _ _ _ _ _ _ _ hsl3 hst3.sl).mono ?_
                  rintro e we ⟨he, hd⟩
                  obtain rfl := he.yes (edit_ins n k F x hk).symm
                  have hst4 := hst3.drawn hd
                  clear hst hst3 hsl3 hd he hrow hbel
                  have hst := hst4
                  clear hst4
                  go_wp2
                  have hbel0 : Below we.heap.size we (we.alloc (.cells (madeCells #[.int .i32 0] (n + 2)) 21)) := (Below.refl _ _).alloc (Nat.le_refl _) _
                  have hrow0 := (World.rowIs_made we (.int .i32 0) (n + 2) 21).congr (g := fun j => .int .i32 (cpG F 0 j)) (fun i _ => cp_start F i)
                  go_loopw [12] (fun i wr => ∃ t : Nat, 0 ≤ t ∧ t ≤ k ∧ i = .int .i64 t ∧ Below we.heap.size we wr ∧ wr.rowIs we.heap.size 21 (n + 2) (fun j => .int .i32 (cpG F t j))) (fun i _ => k - (intOf i).toNat)
                  case atStart => exact ⟨0, by omega, by omega, rfl, hbel0, hrow0⟩
                  case round =>
                    obtain ⟨t, ht0, ht, rfl, hbel, hrow⟩ := hrel
                    by_cases hlt : t < k
                    · have hlt' : (t : Int) < k := by omega
                      rcases hst.sl.2.2 with h0 | ⟨B, o, rfl, hc⟩
                      · omega
                      have g1 := (hbel.cell (p := ⟨B, o + t, none⟩) (World.block_lt_of_cell? _ _ (hc t (by omega)))).trans (hc t (by omega))
                      have g2 := hrow.cell (i := t) (by omega)
                      have g3 := hrow.frozen (t)
                      clear hc hrow0 hbel0
                      go_wp2
                      go_roundw
                      case rel => exact ⟨t + 1, by omega, by omega, by go_num, hbel.setCell (p := ⟨we.heap.size, t, none⟩) (Nat.le_refl _) _, (hrow.set (t) _).congr (fun j hj => cp_step F t j)⟩
                      case measure => simp [intOf]; omega
                    · obtain rfl : k = t := by omega
                      clear hrow0 hbel0
                      have k0 := hrow.cell (i := k) (by omega)
                      have k1 := hrow.cell (i := k + 1) (by omega)
                      have k2 := hrow.frozen k
                      have k3 := hrow.frozen (k + 1)
                      go_wp2
                      have hbel0 := (hbel.setCell (p := ⟨we.heap.size, k, none⟩) (Nat.le_refl _) (.int .i32 x)).setCell (p := ⟨we.heap.size, k + 1, none⟩) (Nat.le_refl _) (.int .i32 x)
                      have hrow0 := ((hrow.set k (.int .i32 x)).set (k + 1) (.int .i32 x)).congr (g := fun j => .int .i32 (ins2H F k x k j)) (fun j _ => ins2_start F k x j)
                      clear hbel hrow k0 k1 k2 k3
                      go_loopw [13] (fun i wr => ∃ t : Nat, k ≤ t ∧ t ≤ n ∧ i = .int .i64 t ∧ Below we.heap.size we wr ∧ wr.rowIs we.heap.size 21 (n + 2) (fun j => .int .i32 (ins2H F k x t j))) (fun i _ => n - (intOf i).toNat)
                      case atStart => exact ⟨k, by omega, by omega, rfl, hbel0, hrow0⟩
                      case round =>
                        obtain ⟨t, ht0, ht, rfl, hbel, hrow⟩ := hrel
                        by_cases hlt : t < n
                        · have hlt' : (t : Int) < n := by omega
                          rcases hst.sl.2.2 with h0 | ⟨B, o, rfl, hc⟩
                          · omega
                          have g1 := (hbel.cell (p := ⟨B, o + t, none⟩) (World.block_lt_of_cell? _ _ (hc t (by omega)))).trans (hc t (by omega))
                          have g2 := hrow.cell (i := t + 2) (by omega)
                          have g3 := hrow.frozen (t + 2)
                          clear hc hrow0 hbel0
                          go_wp2
                          go_roundw
                          case rel => exact ⟨t + 1, by omega, by omega, by go_num, hbel.setCell (p := ⟨we.heap.size, t + 2, none⟩) (Nat.le_refl _) _, (hrow.set (t + 2) _).congr (fun j hj => ins2_step F k x t j ht0)⟩
                          case measure => simp [intOf]; omega
                        · obtain rfl : n = t := by omega
                          clear hrow0 hbel0
                          have hst2 : St w wr sv n c F := hst.next hbel
                          have hsl2 : Sl wr (some ⟨we.heap.size, 0, none⟩) (n + 2) (n + 2) (ins2H F k x n) := slOfRow hrow (by omega)
                          go_wp2_with fail
                          refine (within_any _ _ _ _ _ _ _ _ _ hst2.sl hsl2).mono ?_
                          rintro e wf ⟨he, hd⟩
                          obtain rfl := he.no (oneEdit_far (by omega))
                          have hst3 := hst2.drawn hd
                          clear hst hst2 hsl2 hd he hrow hbel
                          have hst := hst3
                          clear hst3
                          by_cases hk1 : k < n
                          · have hkn : (k : Int) < n := by omega
                            go_wp2
                            have hbel0 : Below wf.heap.size wf (wf.alloc (.cells (madeCells #[.int .i32 0] (n - 1)) 21)) := (Below.refl _ _).alloc (Nat.le_refl _) _
                            have hrow0 := (World.rowIs_made wf (.int .i32 0) (n - 1) 21).congr (g := fun j => .int .i32 (cpG F 0 j)) (fun i _ => cp_start F i)
                            go_loopw [15] (fun i wr => ∃ t : Nat, 0 ≤ t ∧ t ≤ k ∧ i = .int .i64 t ∧ Below wf.heap.size wf wr ∧ wr.rowIs wf.heap.size 21 (n - 1) (fun j => .int .i32 (cpG F t j))) (fun i _ => k - (intOf i).toNat)
                            case atStart => exact ⟨0, by omega, by omega, rfl, hbel0, hrow0⟩
                            case round =>
                              obtain ⟨t, ht0, ht, rfl, hbel, hrow⟩ := hrel
                              by_cases hlt : t < k
                              · have hlt' : (t : Int) < k := by omega
                                rcases hst.sl.2.2 with h0 | ⟨B, o, rfl, hc⟩
                                · omega
                                have g1 := (hbel.cell (p := ⟨B, o + t, none⟩) (World.block_lt_of_cell? _ _ (hc t (by omega)))).trans (hc t (by omega))
                                have g2 := hrow.cell (i := t) (by omega)
                                have g3 := hrow.frozen (t)
                                clear hc hrow0 hbel0
                                go_wp2
                                go_roundw
                                case rel => exact ⟨t + 1, by omega, by omega, by go_num, hbel.setCell (p := ⟨wf.heap.size, t, none⟩) (Nat.le_refl _) _, (hrow.set (t) _).congr (fun j hj => cp_step F t j)⟩
                                case measure => simp [intOf]; omega
                              · obtain rfl : k = t := by omega
                                clear hrow0 hbel0
                                go_wp2
                                have hbel0 := hbel
                                have hrow0 := hrow.congr (g := fun j => .int .i32 (delH F k (k + 1) j)) (fun j _ => del_start F k j)
                                clear hbel hrow
                                go_loopw [16] (fun i wr => ∃ t : Nat, (k + 1) ≤ t ∧ t ≤ n ∧ i = .int .i64 t ∧ Below wf.heap.size wf wr ∧ wr.rowIs wf.heap.size 21 (n - 1) (fun j => .int .i32 (delH F k t j))) (fun i _ => n - (intOf i).toNat)
                                case atStart => exact ⟨(k + 1), by omega, by omega, by go_num, hbel0, hrow0⟩
                                case round =>
                                  obtain ⟨t, ht0, ht, rfl, hbel, hrow⟩ := hrel
                                  by_cases hlt : t < n
                                  · have hlt' : (t : Int) < n := by omega
                                    rcases hst.sl.2.2 with h0 | ⟨B, o, rfl, hc⟩
                                    · omega
                                    have g1 := (hbel.cell (p := ⟨B, o + t, none⟩) (World.block_lt_of_cell? _ _ (hc t (by omega)))).trans (hc t (by omega))
                                    have g2 := hrow.cell (i := t - 1) (by omega)
                                    have g3 := hrow.frozen (t - 1)
                                    clear hc hrow0 hbel0
                                    go_wp2
                                    go_roundw
                                    case rel => exact ⟨t + 1, by omega, by omega, by go_num, hbel.setCell (p := ⟨wf.heap.size, t - 1, none⟩) (Nat.le_refl _) _, (hrow.set (t - 1) _).congr (fun j hj => del_step F k t j ht0)⟩
                                    case measure => simp [intOf]; omega
                                  · obtain rfl : n = t := by omega
                                    clear hrow0 hbel0
                                    have hst2 : St w wr sv n c F := hst.next hbel
                                    have hsl2 : Sl wr (some ⟨wf.heap.size, 0, none⟩) (n - 1) (n - 1) (delH F k n) := slOfRow hrow (by omega)
                                    go_wp2_with fail
                                    refine (within_any _ _ _ _ _ _ _ _ _ hst2.sl hsl2).mono ?_
                                    rintro e wg ⟨he, hd⟩
                                    obtain rfl := he.yes (edit_del n k F (by omega))
                                    have hst3 := hst2.drawn hd
                                    clear hst hst2 hsl2 hd he hrow hbel
                                    have hst := hst3
                                    clear hst3
                                    have hbel0 : Below wg.heap.size wg (wg.alloc (.cells (madeCells #[.int .i32 0] n) 21)) := (Below.refl _ _).alloc (Nat.le_refl _) _
                                    have hrow0 := (World.rowIs_made wg (.int .i32 0) n 21).congr (g := fun j => .int .i32 (cpG F 0 j)) (fun i _ => cp_start F i)
                                    go_wp2
                                    go_loopw [18] (fun i wr => ∃ t : Nat, 0 ≤ t ∧ t ≤ n ∧ i = .int .i64 t ∧ Below wg.heap.size wg wr ∧ wr.rowIs wg.heap.size 21 (n) (fun j => .int .i32 (cpG F t j))) (fun i _ => n - (intOf i).toNat)
                                    case atStart => exact ⟨0, by omega, by omega, rfl, hbel0, hrow0⟩
                                    case round =>
                                      obtain ⟨t, ht0, ht, rfl, hbel, hrow⟩ := hrel
                                      by_cases hlt : t < n
                                      · have hlt' : (t : Int) < n := by omega
                                        rcases hst.sl.2.2 with h0 | ⟨B, o, rfl, hc⟩
                                        · omega
                                        have g1 := (hbel.cell (p := ⟨B, o + t, none⟩) (World.block_lt_of_cell? _ _ (hc t (by omega)))).trans (hc t (by omega))
                                        have g2 := hrow.cell (i := t) (by omega)
                                        have g3 := hrow.frozen (t)
                                        clear hc hrow0 hbel0
                                        go_wp2
                                        go_roundw
                                        case rel => exact ⟨t + 1, by omega, by omega, by go_num, hbel.setCell (p := ⟨wg.heap.size, t, none⟩) (Nat.le_refl _) _, (hrow.set (t) _).congr (fun j hj => cp_step F t j)⟩
                                        case measure => simp [intOf]; omega
                                      · obtain rfl : n = t := by omega
                                        clear hrow0 hbel0
                                        have hst2 : St w (wr.setCell ⟨wg.heap.size, k, none⟩ (.int .i32 x)) sv n c F := hst.next (hbel.setCell (p := ⟨wg.heap.size, k, none⟩) (Nat.le_refl _) _)
                                        have hsl2 : Sl (wr.setCell ⟨wg.heap.size, k, none⟩ (.int .i32 x)) (some ⟨wg.heap.size, 0, none⟩) n n (repF F k x) :=
                                          slOfRow ((hrow.set k _).congr (fun j hj => rep_row F k x n j hj)) (by omega)
                                        have k0 := hrow.cell (i := k) (by omega)
                                        have k2 := hrow.frozen k
                                        go_wp2_with fail
                                        refine (within_any _ _ _ _ _ _ _ _ _ hst2.sl hsl2).mono ?_
                                        rintro e wh ⟨he, hd⟩
                                        obtain rfl := he.yes (edit_rep n k F x)
                                        have hst3 := hst2.drawn hd
                                        clear hst hst2 hsl2 hd he k0 k2 hrow hbel
                                        have hst := hst3
                                        clear hst3
                                        by_cases hk2 : k + 1 < n
                                        · have hkk : (k : Int) + 1 < n := by omega
                                          go_wp2
                                          have hbel0 : Below wh.heap.size wh (wh.alloc (.cells (madeCells #[.int .i32 0] n) 21)) := (Below.refl _ _).alloc (Nat.le_refl _) _
                                          have hrow0 := (World.rowIs_made wh (.int .i32 0) n 21).congr (g := fun j => .int .i32 (cpG F 0 j)) (fun i _ => cp_start F i)
                                          go_loopw [20] (fun i wr => ∃ t : Nat, 0 ≤ t ∧ t ≤ n ∧ i = .int .i64 t ∧ Below wh.heap.size wh wr ∧ wr.rowIs wh.heap.size 21 (n) (fun j => .int .i32 (cpG F t j))) (fun i _ => n - (intOf i).toNat)
                                          case atStart => exact ⟨0, by omega, by omega, rfl, hbel0, hrow0⟩
                                          case round =>
                                            obtain ⟨t, ht0, ht, rfl, hbel, hrow⟩ := hrel
                                            by_cases hlt : t < n
                                            · have hlt' : (t : Int) < n := by omega
                                              rcases hst.sl.2.2 with h0 | ⟨B, o, rfl, hc⟩
                                              · omega
                                              have g1 := (hbel.cell (p := ⟨B, o + t, none⟩) (World.block_lt_of_cell? _ _ (hc t (by omega)))).trans (hc t (by omega))
                                              have g2 := hrow.cell (i := t) (by omega)
                                              have g3 := hrow.frozen (t)
                                              clear hc hrow0 hbel0
                                              go_wp2
                                              go_roundw
                                              case rel => exact ⟨t + 1, by omega, by omega, by go_num, hbel.setCell (p := ⟨wh.heap.size, t, none⟩) (Nat.le_refl _) _, (hrow.set (t) _).congr (fun j hj => cp_step F t j)⟩
                                              case measure => simp [intOf]; omega
                                            · obtain rfl : n = t := by omega
                                              clear hrow0 hbel0
                                              have k0 := hrow.cell (i := k) (by omega)
                                              have k1 := hrow.cell (i := k + 1) (by omega)
                                              have e0 : cpG F n k = F k := by unfold cpG; rw [if_pos (by omega)]
                                              have e1 : cpG F n (k + 1) = F (k + 1) := by unfold cpG; rw [if_pos (by omega)]
                                              rw [e0] at k0
                                              rw [e1] at k1
                                              have HE : Hid (cpG F n k = F k ∧ cpG F n (k + 1) = F (k + 1)) := ⟨e0, e1⟩
                                              clear e0 e1
                                              have k2 := hrow.frozen k
                                              have k3 := hrow.frozen (k + 1)
                                              go_wp2_with fail
                                              have hst2 : St w ((wr.setCell ⟨wh.heap.size, k, none⟩ (.int .i32 (F (k + 1)))).setCell ⟨wh.heap.size, k + 1, none⟩ (.int .i32 (F k))) sv n c F := hst.next ((hbel.setCell (p := ⟨wh.heap.size, k, none⟩) (Nat.le_refl _) _).setCell (p := ⟨wh.heap.size, k + 1, none⟩) (Nat.le_refl _) _)
                                              have hsl2 : Sl ((wr.setCell ⟨wh.heap.size, k, none⟩ (.int .i32 (F (k + 1)))).setCell ⟨wh.heap.size, k + 1, none⟩ (.int .i32 (F k))) (some ⟨wh.heap.size, 0, none⟩) n n (swF F k) :=
                                                slOfRow (((hrow.set k _).set (k + 1) _).congr (fun j hj => sw_row F k n j hj)) (by omega)
                                              refine (within_any _ _ _ _ _ _ _ _ _ hst2.sl hsl2).mono ?_
                                              rintro e w6 ⟨he, hd⟩
                                              obtain rfl := he.yes (edit_sw n k F (by omega))
                                              have hst3 := hst2.drawn hd
                                              go_wp2
                                              go_ret
                                              exact ⟨rfl, hst3.bel⟩
                                        · have hkk : ¬ (k : Int) + 1 < n := by omega
                                          go_wp2
                                          go_ret
                                          exact ⟨rfl, hst.bel⟩
                          · have hkn : ¬ (k : Int) < n := by omega
                            have hkk : ¬ (k : Int) + 1 < n := by omega
                            go_wp2
                            go_ret
                            exact ⟨rfl, hst.bel⟩
  · go_wp2
    go_ret
    exact ⟨rfl, Below.refl _ _⟩

end Go.Proofs.Qxb6601082a
