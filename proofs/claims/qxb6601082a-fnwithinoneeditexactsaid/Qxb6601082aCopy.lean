import Derived.Test.Qxb6601082aWalkC
namespace Go.Proofs.Qxb6601082a
open Go.RowKit

theorem Try.info21 : (Try.prog.info? 21).map (fun i => (i.zero, i.size, i.bytes)) = some (some (.int .i32 0), 1, 4) := by kernel_rfl
theorem Try.eqNil (w : World) (a : Option Addr) (n c n' c' : Nat) : (binOp .eql 34 (.slice a n c) (.slice none n' c')).run Try.prog w = .ok (.bool a.isNone) w := Lib.run_eql_slice_nil w _ _ a n c n' c' Try.underlying34

/-- What the law knows of a slice that came in. -/
def IsRow (k : IntKind) (w : World) (a : Option Addr) (len cap : Nat) (zs : List Int) : Prop :=
  (a = none ∧ len = 0 ∧ cap = 0 ∧ zs = []) ∨
  ∃ x, a = some x ∧ len ≤ cap ∧ cap ≤ maxLen ∧ zs.length = cap ∧ (∀ i, i < zs.length → w.cell? (x.add i) = some (.int k (zs.getD i 0))) ∧ ∀ n ∈ zs, (Lit.int k n).wf = true

theorem IsRow.below {k : IntKind} {w w' : World} {a : Option Addr} {len cap : Nat} {zs : List Int} (h : IsRow k w a len cap zs) (hb : Below w.heap.size w w') : IsRow k w' a len cap zs := by
  rcases h with h | ⟨x, h1, h2, h3, h4, h5, h6⟩
  · exact .inl h
  · refine .inr ⟨x, h1, h2, h3, h4, fun i hi => ?_, h6⟩
    rw [hb.cell (World.block_lt_of_cell? _ _ (h5 i hi))]
    exact h5 i hi

/-- A row of one's own is such a slice. -/
theorem slOfRow {w : World} {B n : Nat} {f : Nat → Int} (h : w.rowIs B 21 n (fun j => .int .i32 (f j))) (hn : n ≤ 100000) : Sl w (some ⟨B, 0, none⟩) n n f :=
  ⟨Nat.le_refl _, hn, .inr ⟨B, 0, rfl, fun i hi => by rw [Nat.zero_add]; exact h.cell hi⟩⟩

set_option maxHeartbeats 800000 in
theorem copy_any (w : World) (a : Option Addr) (len cap : Nat) (zs : List Int) (h : IsRow .i32 w a len cap zs) (hlen : len ≤ 65536) :
    Calls Try.prog 19 #[.slice a len cap] w fun e w' => ∃ sv c F, e = .returned (.slice sv len c) ∧ Hid (Below w.heap.size w w' ∧ Sl w' sv len c F) := by
  have hnil := Try.eqNil
  rcases h with ⟨rfl, rfl, rfl, rfl⟩ | ⟨x, rfl, hlc, hcap, hz, hcell, hwf⟩
  · go_enter Try.func19, Try.ntmps19
    go_wp2
    go_ret
    exact ⟨none, 0, fun _ => 0, rfl, Below.refl _ _, Sl.none (by omega)⟩
  · have hmk := run_make_row' (P := Try.prog) 34 21 (.int .i32 0) 4 Try.underlying34 Try.info21 rfl .i64 .i64 len (by omega) (by omega)
    clear hwf
    rcases Nat.eq_zero_or_pos len with rfl | hpos
    · have hmk0 : ∀ w : World, (Instr.makeSlice 34 (.int .i64 0) (.int .i64 0)).run Try.prog w = .ok (.slice (some ⟨w.heap.size, 0, none⟩) 0 0) (w.alloc (.cells (madeCells #[.int .i32 0] 0) 21)) := hmk
      go_enter Try.func19, Try.ntmps19
      go_wp2
      go_loopw [4] (fun i wr => i = .int .i64 0 ∧ Below w.heap.size w wr) (fun _ _ => 0)
      case atStart => exact ⟨rfl, (Below.refl _ _).alloc (Nat.le_refl _) _⟩
      case round =>
        obtain ⟨rfl, hbel⟩ := hrel
        go_wp2
        go_ret
        exact ⟨_, 0, fun _ => 0, rfl, hbel, Sl.none (by omega)⟩
    obtain ⟨b, off, rfl, hx'⟩ := ints_at hcell (by omega)
    have hx : ∀ i, i < len → w.cell? ⟨b, off + i, none⟩ = some (.int .i32 (zs.getD i 0)) := fun i hi => hx' i (by omega)
    have hb : b < w.heap.size := World.block_lt_of_cell? _ _ (hx 0 hpos)
    go_enter Try.func19, Try.ntmps19
    go_wp2
    clear hmk hnil hcell hx'
    go_loopw [4] (fun i wr => ∃ k : Nat, k ≤ len ∧ i = .int .i64 k ∧ Below w.heap.size w wr ∧ wr.rowIs w.heap.size 21 len (fun j => .int .i32 (if j < k then zs.getD j 0 else 0))) (fun i _ => len - (intOf i).toNat)
    case atStart => exact ⟨0, by omega, rfl, (Below.refl _ _).alloc (Nat.le_refl _) _, (World.rowIs_made w _ len 21).congr (fun i hi => by simp)⟩
    case round =>
      obtain ⟨k, hk, rfl, hbel, hrow⟩ := hrel
      by_cases hlt : k < len
      · have g1 := (hbel.cell (p := ⟨b, off + k, none⟩) hb).trans (hx k hlt)
        have g2 := hrow.cell hlt
        have g3 := hrow.frozen k
        go_wp2
        go_roundw
        case rel =>
          refine ⟨k + 1, by omega, by go_num, hbel.setCell (p := ⟨w.heap.size, k, none⟩) (Nat.le_refl _) _, (hrow.set k _).congr (fun j hj => ?_)⟩
          by_cases e : j = k
          · subst e; simp
          · rw [if_neg e]
            by_cases hjk : j < k
            · rw [if_pos hjk, if_pos (by omega)]
            · rw [if_neg hjk, if_neg (by omega)]
        case measure => simp [intOf]; omega
      · go_wp2
        go_ret
        exact ⟨_, len, fun i => zs.getD i 0, rfl, hbel, slOfRow (hrow.congr (fun i hi => by rw [if_pos (by omega)])) (by omega)⟩

set_option maxHeartbeats 400000 in
theorem zz10_any (w : World) (a : Option Addr) (len cap : Nat) (p b : Value) :
    Calls Try.prog 23 #[.slice a len cap, p, b] w fun e w' => (e = .returned (.bool true) ∨ e = .returned (.bool false)) ∧ w = w' := by
  by_cases h : (len : Int) ≤ 1048576
  · go_enter Try.func23, Try.ntmps23
    go_wp2
    go_ret
    exact ⟨.inl rfl, rfl⟩
  · have h' : 1048576 < (len : Int) := by omega
    go_enter Try.func23, Try.ntmps23
    go_wp2
    go_ret
    exact ⟨.inr rfl, rfl⟩

set_option maxHeartbeats 400000 in
theorem zz8_any (w : World) (a : Option Addr) (len cap : Nat) (a2 : Option Addr) (len2 cap2 : Nat) :
    Calls Try.prog 18 #[.slice a len cap, .slice a2 len2 cap2] w fun e w' => (e = .returned (.bool true) ∨ e = .returned (.bool false)) ∧ w = w' := by
  by_cases h : (len : Int) ≤ 1048576
  · by_cases h2 : (len2 : Int) ≤ 1048576
    · by_cases h3 : (len : Int) + len2 ≤ 1048576
      · go_enter Try.func18, Try.ntmps18
        go_wp2
        go_ret
        exact ⟨.inl rfl, rfl⟩
      · have h' : 1048576 < (len : Int) + len2 := by omega
        go_enter Try.func18, Try.ntmps18
        go_wp2
        go_ret
        exact ⟨.inr rfl, rfl⟩
    · have h' : 1048576 < (len2 : Int) := by omega
      go_enter Try.func18, Try.ntmps18
      go_wp2
      go_ret
      exact ⟨.inr rfl, rfl⟩
  · have h' : 1048576 < (len : Int) := by omega
    go_enter Try.func18, Try.ntmps18
    go_wp2
    go_ret
    exact ⟨.inr rfl, rfl⟩

end Go.Proofs.Qxb6601082a
