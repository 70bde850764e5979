import Derived.Test.Qxb6600445aPlaces
namespace Go.Proofs.Qxb6600445a
open Go.RowKit Go.Maps

theorem Try.info44 : (Try.prog.info? 44).map (fun i => (i.zero, i.size, i.bytes)) = some (some (.string ByteArray.empty), 1, 16) := by kernel_rfl
theorem Try.info47 : (Try.prog.info? 47).map (fun i => (i.zero, i.size, i.bytes)) = some (some (.agg #[.string ByteArray.empty, .int .u8 0, .string ByteArray.empty]), 3, 40) := by kernel_rfl

theorem run_make47 (n : Nat) (hn : n ≤ 1048576) (w : World) : (Instr.makeSlice 29 (.int .i64 (n : Int)) (.int .i64 (n : Int))).run Try.prog w = .ok (.slice (some ⟨w.heap.size, 0, none⟩) n n) (w.alloc (.cells (madeCells #[.string ByteArray.empty, .int .u8 0, .string ByteArray.empty] (n * 3)) 47)) := by
  obtain ⟨i, hi, hz, hs, hb⟩ := info_parts Try.info47
  have hr := run_make (P := Try.prog) w 29 47 i _ Try.underlying29 hi hz .i64 .i64 n n (by omega) (Int.le_refl _) (by rw [hb]; omega) (by omega)
  simp only [Int.toNat_natCast, hs] at hr
  exact hr

theorem rowIs_made3 (w : World) (x y z : Value) (m : Nat) (t : TypeId) : ∃ f, (w.alloc (.cells (madeCells #[x, y, z] m) t)).rowIs w.heap.size t m f := by
  refine ⟨fun i => (madeCells #[x, y, z] m)[i]?.getD default, ?_⟩
  have hs : (madeCells #[x, y, z] m).size = m := size_madeCells _ _
  have := World.rowIs_alloc w (madeCells #[x, y, z] m) t (fun i => (madeCells #[x, y, z] m)[i]?.getD default) (fun i hi => by simp [hi])
  rw [hs] at this
  exact this

/-- zzb1TxList: the names once more. -/
theorem txList_any (a : Option Addr) (n c : Nat) (X : Nat → ByteArray) (w : World) (h : SlV w a n (fun i => .string (X i))) (hn : n ≤ 65536) :
    Calls Try.prog 21 #[.slice a n c] w fun e w' => ∃ b, e = .returned (.slice (some ⟨b, 0, none⟩) n n) ∧ Below w.heap.size w w' ∧ SlV w' (some ⟨b, 0, none⟩) n (fun i => .string (X i)) := by
  have hmk := run_make_row' (P := Try.prog) 39 44 (.string ByteArray.empty) 16 Try.underlying39 Try.info44 rfl .i64 .i64 n (by omega) (by omega)
  go_enter Try.func21, Try.ntmps21
  go_wp2
  clear hmk
  go_loopw [4] (fun i wr => ∃ (k : Nat) (f : Nat → Value), k ≤ n ∧ i = .int .i64 k ∧ Below w.heap.size w wr ∧ wr.rowIs w.heap.size 44 n f ∧ ∀ i, i < k → f i = .string (X i)) (fun i _ => n - (intOf i).toNat)
  case atStart => exact ⟨0, _, by omega, rfl, (Below.refl _ _).alloc (Nat.le_refl _) _, World.rowIs_made w _ n 44, fun i hi => by omega⟩
  case round =>
    obtain ⟨k, f, hk, rfl, hbel, hrow, hf⟩ := hrel
    by_cases hlt : k < n
    · rcases h with h0 | ⟨B, o, rfl, hx⟩
      · omega
      have xb : B < w.heap.size := World.block_lt_of_cell? _ _ (hx k hlt)
      have g1 : wr.cell? ⟨B, o + k, none⟩ = some (.string (X k)) := (hbel.cell (p := ⟨B, o + k, none⟩) xb).trans (hx k hlt)
      have r0 := hrow.cell hlt
      have z0 := hrow.frozen k
      have hlt' : (k : Int) < n := by omega
      have HR : Hid (wr.rowIs w.heap.size 44 n f ∧ ∀ i, i < k → f i = .string (X i)) := ⟨hrow, hf⟩
      clear hx hrow hf
      go_wp2
      go_roundw
      case rel =>
        refine ⟨k + 1, _, by omega, by go_num, hbel.setCell (p := ⟨w.heap.size, k, none⟩) (Nat.le_refl _) _, HR.out.1.set k _, fun i hi => ?_⟩
        by_cases e : i = k
        · subst e; simp
        · simp only [if_neg e]; exact HR.out.2 i (by omega)
      case measure => simp [intOf]; omega
    · obtain rfl : n = k := by omega
      have hlt' : ¬ (n : Int) < n := by omega
      have HR : Hid (wr.rowIs w.heap.size 44 n f ∧ ∀ i, i < n → f i = .string (X i)) := ⟨hrow, hf⟩
      clear hrow hf
      go_wp2
      go_ret
      refine ⟨w.heap.size, rfl, hbel, .inr ⟨_, _, rfl, fun i hi => ?_⟩⟩
      rw [Nat.zero_add, HR.out.1.cell hi, HR.out.2 i hi]

/-- The law's input. -/
structure IN (w : World) (ax a1 a2 a3 : Option Addr) (m n : Nat) (X : Nat → ByteArray) (T : Nat → Nat) (Wr : Nat → Bool) (S : Nat → ByteArray) : Prop where
  txs : SlV w ax m (fun i => .string (X i))
  opTx : SlV w a1 n (fun i => .int .u16 (T i))
  writes : SlV w a2 n (fun i => .bool (Wr i))
  items : SlV w a3 n (fun i => .string (S i))

theorem IN.below {w w' : World} {ax a1 a2 a3 : Option Addr} {m n : Nat} {X : Nat → ByteArray} {T : Nat → Nat} {Wr : Nat → Bool} {S : Nat → ByteArray} {H : Nat} (h : IN w ax a1 a2 a3 m n X T Wr S) (hb : Below H w w') (hH : w.heap.size ≤ H) : IN w' ax a1 a2 a3 m n X T Wr S :=
  ⟨h.txs.below hb hH, h.opTx.below hb hH, h.writes.below hb hH, h.items.below hb hH⟩

/-- k operations are laid. -/
def LaidOps (w wr : World) (N n k : Nat) (X : Nat → ByteArray) (T : Nat → Nat) (Wr : Nat → Bool) (S : Nat → ByteArray) : Prop :=
  Below N w wr ∧ ∃ f : Nat → Value, wr.rowIs N 47 (n * 3) f ∧ ∀ i, i < k → f (i * 3) = .string (X (T i)) ∧ f (i * 3 + 1) = .int .u8 (if Wr i then 2 else 1) ∧ f (i * 3 + 2) = .string (S i)

theorem LaidOps.drew {w wr : World} {N n k : Nat} {X : Nat → ByteArray} {T : Nat → Nat} {Wr : Nat → Bool} {S : Nat → ByteArray} (h : LaidOps w wr N n k X T Wr S) : LaidOps w wr.drew N n k X T Wr S := ⟨h.1.drew, h.2⟩

theorem LaidOps.step {w wr : World} {N n k : Nat} {X : Nat → ByteArray} {T : Nat → Nat} {Wr : Nat → Bool} {S : Nat → ByteArray} (h : LaidOps w wr N n k X T Wr S) :
    LaidOps w (((wr.setCell ⟨N, k * 3, none⟩ (.string (X (T k)))).setCell ⟨N, k * 3 + 1, none⟩ (.int .u8 (if Wr k then 2 else 1))).setCell ⟨N, k * 3 + 2, none⟩ (.string (S k))) N n (k + 1) X T Wr S := by
  obtain ⟨h1, f, hrow, hf⟩ := h
  refine ⟨((h1.setCell (p := ⟨N, k * 3, none⟩) (Nat.le_refl _) _).setCell (p := ⟨N, k * 3 + 1, none⟩) (Nat.le_refl _) _).setCell (p := ⟨N, k * 3 + 2, none⟩) (Nat.le_refl _) _, _, ((hrow.set (k * 3) _).set (k * 3 + 1) _).set (k * 3 + 2) _, fun i hi => ?_⟩
  by_cases e : i = k
  · subst e
    simp
  · have h := hf i (by omega)
    have e1 : ¬ i * 3 = k * 3 + 2 := by omega
    have e2 : ¬ i * 3 = k * 3 + 1 := by omega
    have e3 : ¬ i * 3 = k * 3 := by omega
    have e5 : ¬ i * 3 + 1 = k * 3 := by omega
    have e6 : ¬ i * 3 + 2 = k * 3 + 1 := by omega
    have e7 : ¬ i * 3 + 2 = k * 3 := by omega
    simp [e1, e2, e3, e5, e6, e7, h.1, h.2.1, h.2.2]

set_option maxHeartbeats 2000000 in
theorem ops_any (ax a1 a2 a3 : Option Addr) (m n cx c1 c2 c3 : Nat) (X : Nat → ByteArray) (T : Nat → Nat) (Wr : Nat → Bool) (S : Nat → ByteArray) (w : World) (hin : IN w ax a1 a2 a3 m n X T Wr S) (hn : n ≤ 65536) (hT : ∀ i, i < n → T i < m) :
    Calls Try.prog 20 #[.slice ax m cx, .slice a1 n c1, .slice a2 n c2, .slice a3 n c3] w fun e w' => ∃ b, e = .returned (.slice (some ⟨b, 0, none⟩) n n) ∧ w.heap.size ≤ b ∧ LaidOps w w' b n n X T Wr S ∧ Below w.heap.size w w' := by
  have hmk := run_make47 n (by omega)
  go_enter Try.func20, Try.ntmps20
  go_wp2
  clear hmk
  go_loopw [10] (fun i wr => ∃ k : Nat, k ≤ n ∧ i = .int .i64 k ∧ LaidOps w wr w.heap.size n k X T Wr S) (fun i _ => n - (intOf i).toNat)
  case atStart =>
    obtain ⟨f, hf⟩ := rowIs_made3 w (.string ByteArray.empty) (.int .u8 0) (.string ByteArray.empty) (n * 3) 47
    exact ⟨0, by omega, rfl, (Below.refl _ _).alloc (Nat.le_refl _) _, f, hf, fun i hi => by omega⟩
  case round =>
    obtain ⟨k, hk, rfl, hlaid⟩ := hrel
    by_cases hlt : k < n
    · rcases hin.opTx with h0 | ⟨B1, o1, rfl, hp1⟩
      · omega
      rcases hin.writes with h0 | ⟨B2, o2, rfl, hp2⟩
      · omega
      rcases hin.items with h0 | ⟨B3, o3, rfl, hp3⟩
      · omega
      have hTk := hT k hlt
      rcases hin.txs with h0 | ⟨Bx, ox, rfl, hpx⟩
      · omega
      obtain ⟨hbel, f, hrow, -⟩ := id hlaid
      have hN := hrow.lt
      have x1 : B1 < w.heap.size := World.block_lt_of_cell? _ _ (hp1 k hlt)
      have x2 : B2 < w.heap.size := World.block_lt_of_cell? _ _ (hp2 k hlt)
      have x3 : B3 < w.heap.size := World.block_lt_of_cell? _ _ (hp3 k hlt)
      have xx : Bx < w.heap.size := World.block_lt_of_cell? _ _ (hpx _ hTk)
      have g1 : wr.cell? ⟨B1, o1 + k, none⟩ = some (.int .u16 (T k)) := (hbel.cell (p := ⟨B1, o1 + k, none⟩) x1).trans (hp1 k hlt)
      have g2 : wr.cell? ⟨B2, o2 + k, none⟩ = some (.bool (Wr k)) := (hbel.cell (p := ⟨B2, o2 + k, none⟩) x2).trans (hp2 k hlt)
      have g3 : wr.cell? ⟨B3, o3 + k, none⟩ = some (.string (S k)) := (hbel.cell (p := ⟨B3, o3 + k, none⟩) x3).trans (hp3 k hlt)
      have g4 : wr.cell? ⟨Bx, ox + T k, none⟩ = some (.string (X (T k))) := (hbel.cell (p := ⟨Bx, ox + T k, none⟩) xx).trans (hpx _ hTk)
      have hlt' : (k : Int) < n := by omega
      have hTk' : (T k : Int) < m := by omega
      have r0 := hrow.cell (i := k * 3) (by omega)
      have r1 := hrow.cell (i := k * 3 + 1) (by omega)
      have r2 := hrow.cell (i := k * 3 + 2) (by omega)
      have z0 := hrow.frozen (k * 3)
      have z1 := hrow.frozen (k * 3 + 1)
      have z2 := hrow.frozen (k * 3 + 2)
      have HST := hlaid.step
      have n1 : ¬ w.heap.size = B1 := by omega
      have n2 : ¬ w.heap.size = B3 := by omega
      have n3 : ¬ w.heap.size = Bx := by omega
      have n4 : ¬ B1 = w.heap.size := by omega
      have n5 : ¬ B3 = w.heap.size := by omega
      have n6 : ¬ Bx = w.heap.size := by omega
      clear hp1 hp2 hp3 hpx hrow hlaid hin
      cases hw : Wr k with
      | true =>
        rw [hw] at g2 HST
        simp only [if_true] at HST
        clear hw
        go_wp2
        go_region_held3 (fun w' => w'.cell? ⟨B1, o1 + k, none⟩ = some (.int .u16 (T k)) ∧ w'.cell? ⟨B3, o3 + k, none⟩ = some (.string (S k)) ∧ w'.cell? ⟨Bx, ox + T k, none⟩ = some (.string (X (T k)))) (go_keep) (fail)
        go_wp2
        go_roundw
        case rel => exact ⟨k + 1, by omega, by go_num, HST.drew⟩
        case measure => simp [intOf]; omega
      | false =>
        rw [hw] at g2 HST
        simp only [Bool.false_eq_true, if_false] at HST
        clear hw
        go_wp2
        go_region_held3 (fun w' => w'.cell? ⟨B1, o1 + k, none⟩ = some (.int .u16 (T k)) ∧ w'.cell? ⟨B3, o3 + k, none⟩ = some (.string (S k)) ∧ w'.cell? ⟨Bx, ox + T k, none⟩ = some (.string (X (T k)))) (go_keep) (fail)
        go_wp2
        go_roundw
        case rel => exact ⟨k + 1, by omega, by go_num, HST.drew⟩
        case measure => simp [intOf]; omega
    · obtain rfl : n = k := by omega
      have hlt' : ¬ (n : Int) < n := by omega
      go_wp2
      go_ret
      exact ⟨w.heap.size, rfl, Nat.le_refl _, hlaid, hlaid.1⟩

end Go.Proofs.Qxb6600445a
