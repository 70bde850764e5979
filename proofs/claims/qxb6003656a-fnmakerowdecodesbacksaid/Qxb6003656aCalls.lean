import Derived.Test.Qxb6003656aBase
import Derived.Deep.RegionHeld3
import Derived.Deep.DrawnRows
namespace Go.Proofs.Qxb6003656a
open Go.RowKit

theorem Try.info38 : (Try.prog.info? 38).map (fun i => (i.zero, i.size, i.bytes)) = some (some (.agg #[.string ByteArray.empty, .slice none 0 0, .int .i64 0]), 3, 48) := by kernel_rfl

theorem run_make38 (n : Nat) (hn : n ≤ 1048576) (w : World) : (Instr.makeSlice 33 (.int .i64 (n : Int)) (.int .i64 (n : Int))).run Try.prog w = .ok (.slice (some ⟨w.heap.size, 0, none⟩) n n) (w.alloc (.cells (madeCells #[.string ByteArray.empty, .slice none 0 0, .int .i64 0] (n * 3)) 38)) := by
  obtain ⟨i, hi, hz, hs, hb⟩ := info_parts Try.info38
  have hr := run_make (P := Try.prog) w 33 38 i _ Try.underlying33 hi hz .i64 .i64 n n (by omega) (Int.le_refl _) (by rw [hb]; omega) (by omega)
  simp only [Int.toNat_natCast, hs] at hr
  exact hr

theorem rowIs_made3 (w : World) (x y z : Value) (m : Nat) (t : TypeId) : ∃ f, (w.alloc (.cells (madeCells #[x, y, z] m) t)).rowIs w.heap.size t m f := by
  refine ⟨fun i => (madeCells #[x, y, z] m)[i]?.getD default, ?_⟩
  have hs : (madeCells #[x, y, z] m).size = m := size_madeCells _ _
  have := World.rowIs_alloc w (madeCells #[x, y, z] m) t (fun i => (madeCells #[x, y, z] m)[i]?.getD default) (fun i hi => by simp [hi])
  rw [hs] at this
  exact this

/-- The world behind slices.Clone: the boxed call and the row lie there as before. -/
theorem after_clone {wr W w1 : World} {N m : Nat} {p a t : Value} {f : Nat → Value} (hb : Below W.heap.size W w1) (hW : W.heap = (wr.alloc (.cells #[p, a, t] 38)).heap) (hWb : Below wr.heap.size wr W) (hrow : wr.rowIs N 38 m f) :
    w1.cell? ⟨wr.heap.size, 0, none⟩ = some p ∧ w1.cell? ⟨wr.heap.size, 1, none⟩ = some a ∧ w1.cell? ⟨wr.heap.size, 2, none⟩ = some t ∧ w1.rowIs N 38 m f ∧ wr.heap.size < w1.heap.size ∧ Below wr.heap.size wr w1 := by
  have hs : W.heap.size = wr.heap.size + 1 := by rw [hW]; simp
  have hn : w1.heap[wr.heap.size]? = some (.cells #[p, a, t] 38) := by
    rw [hb.block _ (by omega), hW]
    exact Go.Deep.blk_alloc_new _ _
  have hrl := hrow.lt
  have hbs := hb.size
  refine ⟨by simp [World.cell?, hn], by simp [World.cell?, hn], by simp [World.cell?, hn], (hrow.alloc (.cells #[p, a, t] 38)).of_block ?_, by omega, ?_⟩
  · rw [hb.block _ (by omega), hW]
  · exact hWb.trans (hb.mono (by omega))

/-- One more call is laid into the row. -/
theorem row_step {w1 : World} {N n k : Nat} {f : Nat → Value} (hrow : w1.rowIs N 38 (n * 3) f) (hk : k < n) (p : ByteArray) (a : Option Addr) (l c : Nat) (t : Int)
    (P : Nat → ByteArray) (A : Nat → Option Addr) (L C : Nat → Nat) (T : Nat → Int)
    (hf : ∀ i, i < k → f (i * 3) = .string (P i) ∧ f (i * 3 + 1) = .slice (A i) (L i) (C i) ∧ f (i * 3 + 2) = .int .i64 (T i)) (hp : p = P k) (hl : l = L k) (ht : t = T k) :
    ∃ f', (((w1.setCell ⟨N, k * 3, none⟩ (.string p)).setCell ⟨N, k * 3 + 1, none⟩ (.slice a l c)).setCell ⟨N, k * 3 + 2, none⟩ (.int .i64 t)).rowIs N 38 (n * 3) f' ∧
      ∀ i, i < k + 1 → f' (i * 3) = .string (P i) ∧ f' (i * 3 + 1) = .slice ((fun j => if j = k then a else A j) i) (L i) ((fun j => if j = k then c else C j) i) ∧ f' (i * 3 + 2) = .int .i64 (T i) := by
  subst hp hl ht
  refine ⟨_, ((hrow.set (k * 3) _).set (k * 3 + 1) _).set (k * 3 + 2) _, fun i hi => ?_⟩
  by_cases e : i = k
  · subst e
    simp
  · have h := hf i (by omega)
    have e1 : ¬ i * 3 = k * 3 + 2 := by omega
    have e2 : ¬ i * 3 = k * 3 + 1 := by omega
    have e3 : ¬ i * 3 = k * 3 := by omega
    have e5 : ¬ i * 3 + 1 = k * 3 := by omega
    have e6 : ¬ i * 3 + 2 = k * 3 + 1 := by omega
    have e7 : ¬ i * 3 + 2 = k * 3 := by omega
    simp [e, e1, e2, e3, e5, e6, e7, h.1, h.2.1, h.2.2]

/-- The loop's state: k calls of n are laid into the row at N; their Args lie in blocks of their own. -/
def Laid (w wr : World) (N n k : Nat) (P : Nat → ByteArray) (L : Nat → Nat) (T : Nat → Int) (S : Nat → Nat → ByteArray) : Prop :=
  Below N w wr ∧ ∃ (A : Nat → Option Addr) (C : Nat → Nat) (f : Nat → Value), wr.rowIs N 38 (n * 3) f ∧
    (∀ i, i < k → f (i * 3) = .string (P i) ∧ f (i * 3 + 1) = .slice (A i) (L i) (C i) ∧ f (i * 3 + 2) = .int .i64 (T i)) ∧
    ∀ i, i < k → FSl wr (N + 1) (A i) (L i) (fun j => .string (S i j)) ∧ (A i = none → L i = 0 ∧ C i = 0)

theorem Laid.start (w : World) (n : Nat) (x y z : Value) (P : Nat → ByteArray) (L : Nat → Nat) (T : Nat → Int) (S : Nat → Nat → ByteArray) :
    Laid w (w.alloc (.cells (madeCells #[x, y, z] (n * 3)) 38)) w.heap.size n 0 P L T S := by
  obtain ⟨f, hf⟩ := rowIs_made3 w x y z (n * 3) 38
  exact ⟨(Below.refl _ _).alloc (Nat.le_refl _) _, fun _ => none, fun _ => 0, f, hf, fun i hi => by omega, fun i hi => by omega⟩

theorem Laid.step {w wr w1 : World} {N n k : Nat} {P : Nat → ByteArray} {L : Nat → Nat} {T : Nat → Int} {S : Nat → Nat → ByteArray} (h : Laid w wr N n k P L T S) (hb : Below wr.heap.size wr w1) (hk : k < n) (a : Option Addr) (c : Nat)
    (hfs : FSl w1 (N + 1) a (L k) (fun j => .string (S k j))) (hn : a = none → L k = 0 ∧ c = 0) :
    Laid w (((w1.setCell ⟨N, k * 3, none⟩ (.string (P k))).setCell ⟨N, k * 3 + 1, none⟩ (.slice a (L k) c)).setCell ⟨N, k * 3 + 2, none⟩ (.int .i64 (T k))) N n (k + 1) P L T S := by
  obtain ⟨h1, A, C, f, h2, h3, h4⟩ := h
  have hrow1 : w1.rowIs N 38 (n * 3) f := h2.of_block (hb.block _ h2.lt)
  have hNl := h2.lt
  obtain ⟨f', hf', hc⟩ := row_step hrow1 hk (P k) a (L k) c (T k) P A L C T h3 rfl rfl rfl
  refine ⟨(((h1.trans (hb.mono (by omega))).setCell (p := ⟨N, k * 3, none⟩) (Nat.le_refl _) _).setCell (p := ⟨N, k * 3 + 1, none⟩) (Nat.le_refl _) _).setCell (p := ⟨N, k * 3 + 2, none⟩) (Nat.le_refl _) _, _, _, f', hf', hc, fun i hi => ?_⟩
  by_cases e : i = k
  · subst e
    simp only [if_pos]
    exact ⟨((hfs.set N _ (by omega) _).set N _ (by omega) _).set N _ (by omega) _, hn⟩
  · simp only [if_neg e]
    exact ⟨((((h4 i (by omega)).1.below hb (Nat.le_refl _)).set N _ (by omega) _).set N _ (by omega) _).set N _ (by omega) _, (h4 i (by omega)).2⟩

theorem Laid.done {w wr : World} {N n : Nat} {P : Nat → ByteArray} {L : Nat → Nat} {T : Nat → Int} {S : Nat → Nat → ByteArray} (h : Laid w wr N n n P L T S) :
    ∃ A C, FCA wr N (some ⟨N, 0, none⟩) n P A L C T S := by
  obtain ⟨h1, A, C, f, h2, h3, h4⟩ := h
  refine ⟨A, C, .inr ⟨N, rfl, Nat.le_refl _, h2.lt, fun i hi => ⟨⟨?_, ?_, ?_⟩, h4 i hi⟩⟩⟩
  · rw [h2.cell (i := i * 3) (by omega), (h3 i hi).1]
  · rw [h2.cell (i := i * 3 + 1) (by omega), (h3 i hi).2.1]
  · rw [h2.cell (i := i * 3 + 2) (by omega), (h3 i hi).2.2]

/-- What cloneCalls leaves. -/
def ClonedCalls (w w' : World) (e : Ending) (n : Nat) (P : Nat → ByteArray) (L : Nat → Nat) (T : Nat → Int) (S : Nat → Nat → ByteArray) : Prop :=
  ∃ a' c' A C, e = .returned (.slice a' n c') ∧ Below w.heap.size w w' ∧ a'.isNone = decide (n = 0) ∧ FCA w' w.heap.size a' n P A L C T S

set_option maxHeartbeats 1000000 in
theorem cloneCalls_pos (B o n c : Nat) (P : Nat → ByteArray) (A : Nat → Option Addr) (L C : Nat → Nat) (T : Nat → Int) (S : Nat → Nat → ByteArray) (w : World)
   (hn : n ≤ 65536) (hpos : 0 < n) (hc : ∀ i, i < n → CallAt w B (o + i * 3) (P i) (A i) (L i) (C i) (T i) ∧ SlV w (A i) (L i) (fun j => .string (S i j)) ∧ (A i = none → L i = 0 ∧ C i = 0))
   (hl : ∀ i, i < n → L i ≤ 1048576) :
    Calls Try.prog 24 #[.slice (some ⟨B, o, none⟩) n c] w fun e w' => ClonedCalls w w' e n P L T S := by
  have hmk := run_make38 n (by omega)
  have hz : ((n : Int) == 0) = false := by simp; omega
  go_enter Try.func24, Try.ntmps24
  go_wp2
  clear hmk
  go_loopw [14] (fun i wr => ∃ k : Nat, k ≤ n ∧ i = .int .i64 k ∧ Laid w wr w.heap.size n k P L T S) (fun i _ => n - (intOf i).toNat)
  case atStart => exact ⟨0, by omega, rfl, Laid.start w n _ _ _ P L T S⟩
  case round =>
    obtain ⟨k, hk, rfl, hlaid⟩ := hrel
    by_cases hlt : k < n
    · obtain ⟨⟨d0, d1, d2⟩, ha, hA⟩ := hc k hlt
      obtain ⟨hbel, A', C', f, hrow, -, -⟩ := id hlaid
      have hB : B < w.heap.size := World.block_lt_of_cell? _ _ d0
      have e0 := (hbel.cell (p := ⟨B, o + k * 3, none⟩) hB).trans d0
      have e1 := (hbel.cell (p := ⟨B, o + k * 3 + 1, none⟩) hB).trans d1
      have e2 := (hbel.cell (p := ⟨B, o + k * 3 + 2, none⟩) hB).trans d2
      clear d0 d1 d2
      go_wp2
      have hN : w.heap.size < wr.heap.size := hrow.lt
      have hN1 : ¬ w.heap.size = wr.heap.size := by omega
      have hN2 : ¬ wr.heap.size = w.heap.size := by omega
      have HS : Hid (∀ o, SlV (wr.alloc o) (A k) (L k) (fun j => .string (S k j))) := fun o => (ha.below hbel (Nat.le_refl _)).below (H := wr.heap.size) ((Below.refl _ _).alloc (Nat.le_refl _) _) (Nat.le_refl _)
      have HL : Hid (L k ≤ 1048576 ∧ (A k = none → L k = 0 ∧ C k = 0)) := ⟨hl k hlt, hA⟩
      clear ha hA e0 e1 e2
      go_region_held3 (fun w' => w'.cell? ⟨wr.heap.size, 0, none⟩ = some (.string (P k)) ∧ w'.cell? ⟨wr.heap.size, 1, none⟩ = some (.slice (A k) (L k) (C k)) ∧ w'.cell? ⟨wr.heap.size, 2, none⟩ = some (.int .i64 (T k))) (go_keep) ((go_at_call 27; refine (clone_any (A k) (L k) (C k) (S k) _ (by exact SlV.congr (HS.out _) rfl) HL.out.1 HL.out.2).mono ?_; rintro e w1 ⟨a', c', rfl, hb, hf, hn0⟩; obtain ⟨y0, y1, y2, hrow1, hsz, hbb⟩ := after_clone hb rfl ((Below.refl _ _).alloc (Nat.le_refl _) _).drew hrow; have s0 := hrow1.cell (i := k * 3) (by omega); have s1 := hrow1.cell (i := k * 3 + 1) (by omega); have s2 := hrow1.cell (i := k * 3 + 2) (by omega); have t0 := hrow1.frozen (k * 3); have t1 := hrow1.frozen (k * 3 + 1); have t2 := hrow1.frozen (k * 3 + 2)))
      have hfs : FSl w1 (w.heap.size + 1) a' (L k) (fun j => .string (S k j)) := hf.mono (by show _ ≤ (wr.alloc _).heap.size; simp; omega)
      have hst := hlaid.step hbb hlt a' c' hfs hn0
      clear hlaid hb hf hbb s0 s1 s2 t0 t1 t2 y0 y1 y2 hrow hrow1 hfs hn0
      go_wp2
      go_roundw
      case rel => exact ⟨k + 1, by omega, by go_num, hst⟩
      case measure => simp [intOf]; omega
    · obtain rfl : n = k := by omega
      have hlt' : ¬ (n : Int) < n := by omega
      go_wp2
      go_ret
      obtain ⟨A', C', hd⟩ := hlaid.done
      exact ⟨_, _, A', C', rfl, hlaid.1, by simp; omega, hd⟩

set_option maxHeartbeats 400000 in
theorem cloneCalls_any (a : Option Addr) (n c : Nat) (P : Nat → ByteArray) (A : Nat → Option Addr) (L C : Nat → Nat) (T : Nat → Int) (S : Nat → Nat → ByteArray) (w : World)
   (hn : n ≤ 65536) (h : CA w a n P A L C T S) (hl : ∀ i, i < n → L i ≤ 1048576) :
    Calls Try.prog 24 #[.slice a n c] w fun e w' => ClonedCalls w w' e n P L T S := by
  rcases Nat.eq_zero_or_pos n with rfl | hpos
  · go_enter Try.func24, Try.ntmps24
    go_wp2
    go_ret
    exact ⟨none, 0, fun _ => none, fun _ => 0, rfl, Below.refl _ _, rfl, .inl rfl⟩
  · rcases h with h | ⟨B, o, rfl, hc⟩
    · omega
    · exact cloneCalls_pos B o n c P A L C T S w hn hpos hc hl

set_option maxHeartbeats 400000 in
theorem zzclone_any (a : Option Addr) (n c : Nat) (P : Nat → ByteArray) (A : Nat → Option Addr) (L C : Nat → Nat) (T : Nat → Int) (S : Nat → Nat → ByteArray) (w : World)
   (hn : n ≤ 65536) (h : CA w a n P A L C T S) (hl : ∀ i, i < n → L i ≤ 1048576) :
    Calls Try.prog 14 #[.slice a n c] w fun e w' => ClonedCalls w w' e n P L T S := by
  go_enter Try.func14, Try.ntmps14
  go_wp2_with fail
  refine (cloneCalls_any a n c P A L C T S w hn h hl).mono ?_
  rintro e w1 ⟨a', c', A', C', rfl, h1, h2, h3⟩
  go_wp2
  go_ret
  exact ⟨a', c', A', C', rfl, h1, h2, h3⟩

end Go.Proofs.Qxb6003656a
