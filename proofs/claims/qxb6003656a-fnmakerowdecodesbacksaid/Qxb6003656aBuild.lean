import Derived.Test.Qxb6003656aCalls
namespace Go.Proofs.Qxb6003656a
open Go.RowKit

/-- The law's input: three parallel lists. -/
structure IN (w : World) (at1 at2 at3 : Option Addr) (n : Nat) (P : Nat → ByteArray) (A : Nat → Option Addr) (L C : Nat → Nat) (T : Nat → Int) (S : Nat → Nat → ByteArray) : Prop where
  procs : SlV w at1 n (fun i => .string (P i))
  args : SlV w at2 n (fun i => .slice (A i) (L i) (C i))
  stamps : SlV w at3 n (fun i => .int .i64 (T i))
  strs : ∀ i, i < n → SlV w (A i) (L i) (fun j => .string (S i j)) ∧ (A i = none → L i = 0 ∧ C i = 0) ∧ L i ≤ 1048576

theorem IN.below {w w' : World} {at1 at2 at3 : Option Addr} {n : Nat} {P : Nat → ByteArray} {A : Nat → Option Addr} {L C : Nat → Nat} {T : Nat → Int} {S : Nat → Nat → ByteArray} {H : Nat} (h : IN w at1 at2 at3 n P A L C T S) (hb : Below H w w') (hH : w.heap.size ≤ H) : IN w' at1 at2 at3 n P A L C T S :=
  ⟨h.procs.below hb hH, h.args.below hb hH, h.stamps.below hb hH, fun i hi => ⟨(h.strs i hi).1.below hb hH, (h.strs i hi).2⟩⟩

theorem Try.neNil29 (w : World) (a : Option Addr) (n c n' c' : Nat) : (binOp .neq 29 (.slice a n c) (.slice none n' c')).run Try.prog w = .ok (.bool (!a.isNone)) w := run_neq_slice_nil_any w 29 9 a n c n' c' Try.underlying29

theorem Laid.drew {w wr : World} {N n k : Nat} {P : Nat → ByteArray} {L : Nat → Nat} {T : Nat → Int} {S : Nat → Nat → ByteArray} (h : Laid w wr N n k P L T S) : Laid w wr.drew N n k P L T S := ⟨h.1.drew, h.2⟩

/-- What zzBuildCalls leaves. -/
def Built (w w' : World) (e : Ending) (n : Nat) (P : Nat → ByteArray) (L : Nat → Nat) (T : Nat → Int) (S : Nat → Nat → ByteArray) : Prop :=
  ∃ a' A C, e = .returned (.slice (some a') n n) ∧ Below w.heap.size w w' ∧ FCA w' w.heap.size (some a') n P A L C T S

set_option maxHeartbeats 2000000 in
theorem build_any (at1 at2 at3 : Option Addr) (n cp ca cs : Nat) (P : Nat → ByteArray) (A : Nat → Option Addr) (L C : Nat → Nat) (T : Nat → Int) (S : Nat → Nat → ByteArray) (w : World)
   (hn : n ≤ 65536) (hin : IN w at1 at2 at3 n P A L C T S) :
    Calls Try.prog 13 #[.slice at1 n cp, .slice at2 n ca, .slice at3 n cs] w fun e w' => Built w w' e n P L T S := by
  have hmk := run_make38 n (by omega)
  have hne := Try.neNil29
  go_enter Try.func13, Try.ntmps13
  go_wp2
  clear hmk
  go_loopw [8] (fun i wr => ∃ k : Nat, k ≤ n ∧ i = .int .i64 k ∧ Laid w wr w.heap.size n k P L T S) (fun i _ => n - (intOf i).toNat)
  case atStart => exact ⟨0, by omega, rfl, Laid.start w n _ _ _ P L T S⟩
  case round =>
    obtain ⟨k, hk, rfl, hlaid⟩ := hrel
    by_cases hlt : k < n
    · rcases hin.procs with h0 | ⟨Bp, op, rfl, hp⟩
      · omega
      rcases hin.args with h0 | ⟨Ba, oa, rfl, ha⟩
      · omega
      rcases hin.stamps with h0 | ⟨Bs, os, rfl, hs⟩
      · omega
      obtain ⟨hbel, A', C', f, hrow, -, -⟩ := id hlaid
      have hN := hrow.lt
      have xp : Bp < w.heap.size := World.block_lt_of_cell? _ _ (hp k hlt)
      have xa : Ba < w.heap.size := World.block_lt_of_cell? _ _ (ha k hlt)
      have xs : Bs < w.heap.size := World.block_lt_of_cell? _ _ (hs k hlt)
      have g1 : wr.cell? ⟨Bp, op + k, none⟩ = some (.string (P k)) := (hbel.cell (p := ⟨Bp, op + k, none⟩) xp).trans (hp k hlt)
      have g2 : wr.cell? ⟨Ba, oa + k, none⟩ = some (.slice (A k) (L k) (C k)) := (hbel.cell (p := ⟨Ba, oa + k, none⟩) xa).trans (ha k hlt)
      have g3 : wr.cell? ⟨Bs, os + k, none⟩ = some (.int .i64 (T k)) := (hbel.cell (p := ⟨Bs, os + k, none⟩) xs).trans (hs k hlt)
      obtain ⟨hsl, hnone, hL⟩ := hin.strs k hlt
      have hlt' : (k : Int) < n := by omega
      cases hAk : A k with
      | none =>
        obtain ⟨hL0, hC0⟩ := hnone hAk
        rw [hAk, hL0, hC0] at g2
        have hst := hlaid.step (Below.refl _ _) hlt none 0 (.inl hL0) (fun _ => ⟨hL0, rfl⟩)
        rw [hL0] at hst
        have HST := hst
        clear hst hp ha hs hsl hnone hL0 hC0 hAk hlaid hin
        have r0 := hrow.cell (i := k * 3) (by omega)
        have r1 := hrow.cell (i := k * 3 + 1) (by omega)
        have r2 := hrow.cell (i := k * 3 + 2) (by omega)
        have z0 := hrow.frozen (k * 3)
        have z1 := hrow.frozen (k * 3 + 1)
        have z2 := hrow.frozen (k * 3 + 2)
        have n1 : ¬ w.heap.size = Bp := by omega
        have n2 : ¬ w.heap.size = Bs := by omega
        have n3 : ¬ Bp = w.heap.size := by omega
        have n4 : ¬ Bs = w.heap.size := by omega
        go_wp2
        go_region_held3 (fun w' => w'.cell? ⟨Bp, op + k, none⟩ = some (.string (P k)) ∧ w'.cell? ⟨Bs, os + k, none⟩ = some (.int .i64 (T k))) (go_keep) (fail)
        go_wp2
        go_roundw
        case rel => exact ⟨k + 1, by omega, by go_num, HST.drew⟩
        case measure => simp [intOf]; omega
      | some x =>
        rw [hAk] at g2 hsl
        have hmk2 := run_make_row' (P := Try.prog) 29 9 (.string ByteArray.empty) 16 Try.underlying29 Try.info9 rfl .i64 .i64 (L k) (by omega) (by omega)
        have HSL : Hid (SlV wr (some x) (L k) (fun j => .string (S k j))) := hsl.below hbel (Nat.le_refl _)
        clear hp ha hs hsl hnone hAk hin
        go_wp2
        have G1 : Hid (wr.cell? ⟨Bp, op + k, none⟩ = some (.string (P k))) := g1
        have G2 : Hid (wr.cell? ⟨Ba, oa + k, none⟩ = some (.slice (some x) (L k) (C k))) := g2
        have G3 : Hid (wr.cell? ⟨Bs, os + k, none⟩ = some (.int .i64 (T k))) := g3
        clear hmk2 g1 g2 g3
        obtain ⟨wo, rfl⟩ : ∃ wo : World, wo = wr := ⟨_, rfl⟩
        go_loopw [10] (fun i wi => ∃ t : Nat, t ≤ L k ∧ i = .int .i64 t ∧ Below wo.heap.size wo wi ∧ wi.rowIs wo.heap.size 9 (L k) (fun j => .string (if j < t then S k j else ByteArray.empty))) (fun i _ => L k - (intOf i).toNat)
        case atStart => exact ⟨0, by omega, rfl, (Below.refl _ _).alloc (Nat.le_refl _) _, (World.rowIs_made wo _ (L k) 9).congr (fun i hi => by simp)⟩
        case round =>
          obtain ⟨t, ht, rfl, hb2, hrow2⟩ := hrel
          have xN : wo.heap.size ≤ wr.heap.size := hb2.size
          have xa' : Ba < wo.heap.size := by omega
          have g2 : wr.cell? ⟨Ba, oa + k, none⟩ = some (.slice (some x) (L k) (C k)) := (hb2.cell (p := ⟨Ba, oa + k, none⟩) xa').trans G2.out
          by_cases htl : t < L k
          · rcases HSL.out with h0 | ⟨Bx, ox, ex, hx⟩
            · omega
            simp only [Option.some.injEq] at ex
            subst ex
            have xx : Bx < wo.heap.size := World.block_lt_of_cell? _ _ (hx t htl)
            have g4 : wr.cell? ⟨Bx, ox + t, none⟩ = some (.string (S k t)) := (hb2.cell (p := ⟨Bx, ox + t, none⟩) xx).trans (hx t htl)
            have g5 := hrow2.cell htl
            have g6 := hrow2.frozen t
            have htl' : (t : Int) < L k := by omega
            clear hx
            go_wp2
            go_roundw
            case rel =>
              refine ⟨t + 1, by omega, by go_num, hb2.setCell (p := ⟨wo.heap.size, t, none⟩) (Nat.le_refl _) _, (hrow2.set t _).congr (fun j hj => ?_)⟩
              by_cases e : j = t
              · subst e; simp
              · rw [if_neg e]
                by_cases hjk : j < t
                · rw [if_pos hjk, if_pos (by omega)]
                · rw [if_neg hjk, if_neg (by omega)]
            case measure => simp [intOf]; omega
          · have htl' : ¬ (t : Int) < L k := by omega
            obtain rfl : t = L k := by omega
            have g1 : wr.cell? ⟨Bp, op + k, none⟩ = some (.string (P k)) := (hb2.cell (p := ⟨Bp, op + k, none⟩) (Nat.lt_trans xp hN)).trans G1.out
            have g3 : wr.cell? ⟨Bs, os + k, none⟩ = some (.int .i64 (T k)) := (hb2.cell (p := ⟨Bs, os + k, none⟩) (Nat.lt_trans xs hN)).trans G3.out
            have hrow' : wr.rowIs w.heap.size 38 (n * 3) f := hrow.of_block (hb2.block _ hN)
            have hfs : FSl wr (w.heap.size + 1) (some ⟨wo.heap.size, 0, none⟩) (L k) (fun j => .string (S k j)) := .inr ⟨_, 0, rfl, by omega, hrow2.lt, fun i hi => by
              rw [Nat.zero_add]
              exact ⟨by rw [hrow2.cell hi, if_pos hi], hrow2.frozen i⟩⟩
            have hst := hlaid.step hb2 hlt (some ⟨wo.heap.size, 0, none⟩) (L k) hfs (fun h => by cases h)
            have HST := hst
            clear hst hfs hlaid hrow2 g2
            have r0 := hrow'.cell (i := k * 3) (by omega)
            have r1 := hrow'.cell (i := k * 3 + 1) (by omega)
            have r2 := hrow'.cell (i := k * 3 + 2) (by omega)
            have z0 := hrow'.frozen (k * 3)
            have z1 := hrow'.frozen (k * 3 + 1)
            have z2 := hrow'.frozen (k * 3 + 2)
            have n1 : ¬ w.heap.size = Bp := by omega
            have n2 : ¬ w.heap.size = Bs := by omega
            have n3 : ¬ Bp = w.heap.size := by omega
            have n4 : ¬ Bs = w.heap.size := by omega
            have g2 : wr.cell? ⟨Ba, oa + k, none⟩ = some (.slice (some x) (L k) (C k)) := (hb2.cell (p := ⟨Ba, oa + k, none⟩) xa').trans G2.out
            go_wp2
            go_region_held3 (fun w' => w'.cell? ⟨Bp, op + k, none⟩ = some (.string (P k)) ∧ w'.cell? ⟨Bs, os + k, none⟩ = some (.int .i64 (T k))) (go_keep) (fail)
            go_wp2
            go_roundw
            case rel => exact ⟨k + 1, by omega, by go_num, HST.drew⟩
            case measure => simp [intOf]; omega
    · obtain rfl : n = k := by omega
      have hlt' : ¬ (n : Int) < n := by omega
      go_wp2
      go_ret
      obtain ⟨A', C', hd⟩ := hlaid.done
      exact ⟨_, A', C', rfl, hlaid.1, hd⟩

end Go.Proofs.Qxb6003656a
