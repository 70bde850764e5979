import Derived.Test.Qxb6003656aRowM
namespace Go.Proofs.Qxb6003656a
open Go.RowKit

theorem Try.info52 : (Try.prog.info? 52).map (fun i => (i.zero, i.size, i.bytes)) = some (some (.agg #[.int .u8 0, .int .i64 0, .string ByteArray.empty]), 3, 32) := by kernel_rfl

theorem run_make52 (n : Nat) (hn : n ≤ 1048576) (w : World) : (Instr.makeSlice 49 (.int .i64 (n : Int)) (.int .i64 (n : Int))).run Try.prog w = .ok (.slice (some ⟨w.heap.size, 0, none⟩) n n) (w.alloc (.cells (madeCells #[.int .u8 0, .int .i64 0, .string ByteArray.empty] (n * 3)) 52)) := by
  obtain ⟨i, hi, hz, hs, hb⟩ := info_parts Try.info52
  have hr := run_make (P := Try.prog) w 49 52 i _ Try.underlying49 hi hz .i64 .i64 n n (by omega) (Int.le_refl _) (by rw [hb]; omega) (by omega)
  simp only [Int.toNat_natCast, hs] at hr
  exact hr

/-- k values of n are laid into the row at N. -/
def LaidR (w wr : World) (N n k : Nat) (K : Nat → Nat) (T : Nat → Int) (S : Nat → ByteArray) : Prop :=
  Below N w wr ∧ ∃ (f : Nat → Value), wr.rowIs N 52 (n * 3) f ∧
    (∀ i, i < k → f (i * 3) = .int .u8 (K i) ∧ f (i * 3 + 1) = .int .i64 (T i) ∧ f (i * 3 + 2) = .string (S i))

theorem LaidR.start (w : World) (n : Nat) (x y z : Value) (K : Nat → Nat) (T : Nat → Int) (S : Nat → ByteArray) :
    LaidR w (w.alloc (.cells (madeCells #[x, y, z] (n * 3)) 52)) w.heap.size n 0 K T S := by
  obtain ⟨f, hf⟩ := rowIs_made3 w x y z (n * 3) 52
  exact ⟨(Below.refl _ _).alloc (Nat.le_refl _) _, f, hf, fun i hi => by omega⟩

theorem LaidR.step {w wr : World} {N n k : Nat} {K : Nat → Nat} {T : Nat → Int} {S : Nat → ByteArray} (h : LaidR w wr N n k K T S) :
    LaidR w (((wr.setCell ⟨N, k * 3, none⟩ (.int .u8 (K k))).setCell ⟨N, k * 3 + 1, none⟩ (.int .i64 (T k))).setCell ⟨N, k * 3 + 2, none⟩ (.string (S k))) N n (k + 1) K T S := by
  obtain ⟨h1, f, hrow, hf⟩ := h
  refine ⟨((h1.setCell (p := ⟨N, k * 3, none⟩) (Nat.le_refl _) _).setCell (p := ⟨N, k * 3 + 1, none⟩) (Nat.le_refl _) _).setCell (p := ⟨N, k * 3 + 2, none⟩) (Nat.le_refl _) _,
    _, ((hrow.set (k * 3) _).set (k * 3 + 1) _).set (k * 3 + 2) _, fun i hi => ?_⟩
  by_cases e : i = k
  · subst e
    simp
  · have h := hf i (by omega)
    have e1 : ¬ i * 3 = k * 3 + 2 := by omega
    have e2 : ¬ i * 3 = k * 3 + 1 := by omega
    have e3 : ¬ i * 3 = k * 3 := by omega
    have e5 : ¬ i * 3 + 1 = k * 3 := by omega
    have e6 : ¬ i * 3 + 2 = k * 3 + 1 := by omega
    have e7 : ¬ i * 3 + 2 = k * 3 := by omega
    simp [e1, e2, e3, e5, e6, e7, h.1, h.2.1, h.2.2]

theorem LaidR.drew {w wr : World} {N n k : Nat} {K : Nat → Nat} {T : Nat → Int} {S : Nat → ByteArray} (h : LaidR w wr N n k K T S) : LaidR w wr.drew N n k K T S := ⟨h.1.drew, h.2⟩

theorem LaidR.done {w wr : World} {N n : Nat} {K : Nat → Nat} {T : Nat → Int} {S : Nat → ByteArray} (h : LaidR w wr N n n K T S) : RecAt wr N n K T S ∧ N < wr.heap.size := by
  obtain ⟨h1, f, h2, h3⟩ := h
  refine ⟨fun i hi => ⟨?_, ?_, ?_⟩, h2.lt⟩
  · rw [h2.cell (i := i * 3) (by omega), (h3 i hi).1]
  · rw [h2.cell (i := i * 3 + 1) (by omega), (h3 i hi).2.1]
  · rw [h2.cell (i := i * 3 + 2) (by omega), (h3 i hi).2.2]

/-- The law's input: three parallel lists. -/
structure INR (w : World) (a1 a2 a3 : Option Addr) (n : Nat) (K : Nat → Nat) (T : Nat → Int) (S : Nat → ByteArray) : Prop where
  kinds : SlV w a1 n (fun i => .int .u8 (K i))
  nums : SlV w a2 n (fun i => .int .i64 (T i))
  strs : SlV w a3 n (fun i => .string (S i))

set_option maxHeartbeats 2000000 in
theorem zzmakeRow_any (key : ByteArray) (a1 a2 a3 : Option Addr) (n c1 c2 c3 : Nat) (K : Nat → Nat) (T : Nat → Int) (S : Nat → ByteArray) (w : World)
   (hk : key.size ≤ 65536) (hdom : Dom n K S) (hin : INR w a1 a2 a3 n K T S) :
    Calls Try.prog 19 #[.string key, .slice a1 n c1, .slice a2 n c2, .slice a3 n c3] w fun e w' => e = .returned (.string ⟨(pre key K T S n).toArray⟩) ∧ Below w.heap.size w w' := by
  have hn := hdom.1
  have hmk := run_make52 n (by omega)
  go_enter Try.func19, Try.ntmps19
  go_wp2
  clear hmk
  go_loopw [10] (fun i wr => ∃ k : Nat, k ≤ n ∧ i = .int .i64 k ∧ LaidR w wr w.heap.size n k K T S) (fun i _ => n - (intOf i).toNat)
  case atStart => exact ⟨0, by omega, rfl, LaidR.start w n _ _ _ K T S⟩
  case round =>
    obtain ⟨k, hk, rfl, hlaid⟩ := hrel
    by_cases hlt : k < n
    · rcases hin.kinds with h0 | ⟨Bp, op, rfl, hp⟩
      · omega
      rcases hin.nums with h0 | ⟨Ba, oa, rfl, ha⟩
      · omega
      rcases hin.strs with h0 | ⟨Bs, os, rfl, hs⟩
      · omega
      obtain ⟨hbel, f, hrow, -⟩ := id hlaid
      have hN := hrow.lt
      have xp : Bp < w.heap.size := World.block_lt_of_cell? _ _ (hp k hlt)
      have xa : Ba < w.heap.size := World.block_lt_of_cell? _ _ (ha k hlt)
      have xs : Bs < w.heap.size := World.block_lt_of_cell? _ _ (hs k hlt)
      have g1 : wr.cell? ⟨Bp, op + k, none⟩ = some (.int .u8 (K k)) := (hbel.cell (p := ⟨Bp, op + k, none⟩) xp).trans (hp k hlt)
      have g2 : wr.cell? ⟨Ba, oa + k, none⟩ = some (.int .i64 (T k)) := (hbel.cell (p := ⟨Ba, oa + k, none⟩) xa).trans (ha k hlt)
      have g3 : wr.cell? ⟨Bs, os + k, none⟩ = some (.string (S k)) := (hbel.cell (p := ⟨Bs, os + k, none⟩) xs).trans (hs k hlt)
      have hlt' : (k : Int) < n := by omega
      have HST := hlaid.step
      clear hp ha hs hlaid hin
      have r0 := hrow.cell (i := k * 3) (by omega)
      have r1 := hrow.cell (i := k * 3 + 1) (by omega)
      have r2 := hrow.cell (i := k * 3 + 2) (by omega)
      have z0 := hrow.frozen (k * 3)
      have z1 := hrow.frozen (k * 3 + 1)
      have z2 := hrow.frozen (k * 3 + 2)
      have n1 : ¬ w.heap.size = Bp := by omega
      have n2 : ¬ w.heap.size = Bs := by omega
      have n3 : ¬ Bp = w.heap.size := by omega
      have n4 : ¬ Bs = w.heap.size := by omega
      have n5 : ¬ w.heap.size = Ba := by omega
      have n6 : ¬ Ba = w.heap.size := by omega
      go_wp2
      go_region_held3 (fun w' => w'.cell? ⟨Bp, op + k, none⟩ = some (.int .u8 (K k)) ∧ w'.cell? ⟨Ba, oa + k, none⟩ = some (.int .i64 (T k)) ∧ w'.cell? ⟨Bs, os + k, none⟩ = some (.string (S k))) (go_keep) (fail)
      go_wp2
      go_roundw
      case rel => exact ⟨k + 1, by omega, by go_num, HST.drew⟩
      case measure => simp [intOf]; omega
    · obtain rfl : n = k := by omega
      have hlt' : ¬ (n : Int) < n := by omega
      obtain ⟨hrec, hN⟩ := hlaid.done
      have hbel := hlaid.1
      clear hlaid hin
      go_wp2_with (go_at_call 25; refine (makeRow_any key _ n n K T S _ ‹_› hdom hrec hN).mono ?_)
      rintro e w1 rfl hb1
      go_wp2
      go_ret
      exact ⟨rfl, hbel.trans (hb1.mono hbel.size)⟩

end Go.Proofs.Qxb6003656a
