import Derived.Test.Qxb6002696aPerB
import Derived.Deep.OwnRows
import Derived.OpenShut
namespace Go.Proofs.Qxb6002696a
open Go.RowKit

theorem Next.step {w w1 w2 : World} {R : Nat} {sv : Option Addr} {n c pos p : Nat} (h : Next w1 w2 R sv n c p) (b : Below R w w1) (hp : pos ≤ p) : Next w w2 R sv n c pos := by
  obtain ⟨p', b', h1, h2, h3⟩ := h
  exact ⟨p', b', h1, b.trans h2, by omega⟩

set_option maxHeartbeats 800000 in
theorem snssai_any (w : World) (R : Nat) (sv : Option Addr) (n c pos : Nat) (bad : Bool) (h : Rd w R sv n c pos bad) :
    Calls Try.prog 38 #[.pointer (some ⟨R, 0, none⟩)] w fun e w' => e = .returned (.tuple #[]) ∧ Next w w' R sv n c pos := by
  go_enter Try.func38, Try.ntmps38
  go_wp2_with fail
  refine (bits_any _ R sv n c pos bad 1 h (by omega) (by omega)).mono ?_
  rintro e w1 ⟨v1, p1, bd1, rfl, hv0, hv1, -, h1, b1, q1⟩
  go_wp2_with fail
  refine (bits_any _ R sv n c p1 bd1 1 h1 (by omega) (by omega)).mono ?_
  rintro e w2 ⟨v2, p2, bd2, rfl, -, -, -, h2, b2, q2⟩
  go_wp2_with fail
  refine (bits_any _ R sv n c p2 bd2 1 h2 (by omega) (by omega)).mono ?_
  rintro e w3 ⟨v3, p3, bd3, rfl, -, -, -, h3, b3, q3⟩
  go_wp2_with fail
  refine (bits_any _ R sv n c p3 bd3 8 h3 (by omega) (by omega)).mono ?_
  rintro e w4 ⟨v4, p4, bd4, rfl, -, -, -, h4, b4, q4⟩
  have l4 : Below R w w4 := ((b1.trans b2).trans b3).trans b4
  have r4 : pos ≤ p4 := by omega
  clear h h1 h2 h3 b1 b2 b3 b4 q1 q2 q3 q4 hv0 hv1
  have e1 : (v1 == 1) = true ∨ (v1 == 1) = false := by cases (v1 == 1) <;> simp
  have e2 : (v2 == 1) = true ∨ (v2 == 1) = false := by cases (v2 == 1) <;> simp
  have e3 : (v3 == 1) = true ∨ (v3 == 1) = false := by cases (v3 == 1) <;> simp
  rcases e2 with e2 | e2 <;> rcases e3 with e3 | e3 <;> rcases e1 with e1 | e1
  · go_wp2_with fail
    refine (octets_any _ R sv n c p4 bd4 3 h4 (by omega) (by omega)).mono ?_
    rintro e w5 ⟨⟨v5, rfl⟩, p5, bd5, h5, b5, q5⟩
    go_wp2_with fail
    refine (skipProt_any _ R sv n c p5 bd5 h5).mono ?_
    rintro e w6 ⟨rfl, p6, bd6, h6, b6, q6⟩
    go_wp2_with fail
    refine (skipExt_any _ R sv n c p6 bd6 h6).mono ?_
    rintro e w7 ⟨rfl, h7⟩
    go_wp2
    go_end0
    exact ⟨rfl, h7.step ((l4.trans b5).trans b6) (by omega)⟩
  · go_wp2_with fail
    refine (octets_any _ R sv n c p4 bd4 3 h4 (by omega) (by omega)).mono ?_
    rintro e w5 ⟨⟨v5, rfl⟩, p5, bd5, h5, b5, q5⟩
    go_wp2_with fail
    refine (skipProt_any _ R sv n c p5 bd5 h5).mono ?_
    rintro e w6 ⟨rfl, h6⟩
    go_wp2
    go_end0
    exact ⟨rfl, h6.step (l4.trans b5) (by omega)⟩
  · go_wp2_with fail
    refine (octets_any _ R sv n c p4 bd4 3 h4 (by omega) (by omega)).mono ?_
    rintro e w5 ⟨⟨v5, rfl⟩, p5, bd5, h5, b5, q5⟩
    go_wp2_with fail
    refine (skipExt_any _ R sv n c p5 bd5 h5).mono ?_
    rintro e w7 ⟨rfl, h7⟩
    go_wp2
    go_end0
    exact ⟨rfl, h7.step (l4.trans b5) (by omega)⟩
  · go_wp2_with fail
    refine (octets_any _ R sv n c p4 bd4 3 h4 (by omega) (by omega)).mono ?_
    rintro e w5 ⟨⟨v5, rfl⟩, h5⟩
    go_wp2
    go_end0
    exact ⟨rfl, h5.step l4 (by omega)⟩
  · go_wp2_with fail
    refine (skipProt_any _ R sv n c p4 bd4 h4).mono ?_
    rintro e w6 ⟨rfl, p6, bd6, h6, b6, q6⟩
    go_wp2_with fail
    refine (skipExt_any _ R sv n c p6 bd6 h6).mono ?_
    rintro e w7 ⟨rfl, h7⟩
    go_wp2
    go_end0
    exact ⟨rfl, h7.step (l4.trans b6) (by omega)⟩
  · go_wp2_with fail
    refine (skipProt_any _ R sv n c p4 bd4 h4).mono ?_
    rintro e w6 ⟨rfl, h6⟩
    go_wp2
    go_end0
    exact ⟨rfl, h6.step l4 (by omega)⟩
  · go_wp2_with fail
    refine (skipExt_any _ R sv n c p4 bd4 h4).mono ?_
    rintro e w7 ⟨rfl, h7⟩
    go_wp2
    go_end0
    exact ⟨rfl, h7.step l4 (by omega)⟩
  · go_wp2
    go_end0
    exact ⟨rfl, p4, bd4, h4, l4, r4⟩

set_option maxHeartbeats 800000 in
theorem snssai_bad (w : World) (R : Nat) (sv : Option Addr) (n c pos : Nat) (h : Rd w R sv n c pos true) :
    Calls Try.prog 38 #[.pointer (some ⟨R, 0, none⟩)] w fun e w' => e = .returned (.tuple #[]) ∧ Rd w' R sv n c pos true ∧ Below R w w' := by
  go_enter Try.func38, Try.ntmps38
  go_wp2_with fail
  refine (bits_bad _ R sv n c pos 1 h).mono ?_
  rintro e w1 ⟨rfl, h1, b1⟩
  go_wp2_with fail
  refine (bits_bad _ R sv n c pos 1 h1).mono ?_
  rintro e w2 ⟨rfl, h2, b2⟩
  go_wp2_with fail
  refine (bits_bad _ R sv n c pos 1 h2).mono ?_
  rintro e w3 ⟨rfl, h3, b3⟩
  go_wp2_with fail
  refine (bits_bad _ R sv n c pos 8 h3).mono ?_
  rintro e w4 ⟨rfl, h4, b4⟩
  go_wp2
  go_end0
  exact ⟨rfl, h4, ((b1.trans b2).trans b3).trans b4⟩

theorem Try.info5 : (Try.prog.info? 5).map (fun i => (i.zero, i.size, i.bytes)) = some (some (.int .u8 0), 1, 1) := by kernel_rfl

/-- What the law knows of the bytes that came in. -/
def IsRow (k : IntKind) (w : World) (a : Option Addr) (len cap : Nat) (zs : List Int) : Prop :=
  (a = none ∧ len = 0 ∧ cap = 0 ∧ zs = []) ∨
  ∃ x, a = some x ∧ len ≤ cap ∧ cap ≤ maxLen ∧ zs.length = cap ∧ (∀ i, i < zs.length → w.cell? (x.add i) = some (.int k (zs.getD i 0))) ∧ ∀ n ∈ zs, (Lit.int k n).wf = true

/-- The copy: nil, or a row of its own at the heap's end. -/
def Copied (w w' : World) (n : Nat) (sv : Option Addr) (c : Nat) : Prop :=
  Below w.heap.size w w' ∧ n ≤ c ∧ c ≤ 65536 ∧ ∀ i, i < n → ∃ B z, sv = some ⟨B, 0, none⟩ ∧ B < w'.heap.size ∧ w'.cell? ⟨B, i, none⟩ = some (.int .u8 z) ∧ 0 ≤ z ∧ z ≤ 255

theorem Try.eqNil (w : World) (a : Option Addr) (n c n' c' : Nat) : (binOp .eql 34 (.slice a n c) (.slice none n' c')).run Try.prog w = .ok (.bool a.isNone) w := Lib.run_eql_slice_nil w _ _ a n c n' c' Try.underlying34

set_option maxHeartbeats 800000 in
theorem clone_any (w : World) (a : Option Addr) (len cap : Nat) (zs : List Int) (h : IsRow .u8 w a len cap zs) (hlen : len ≤ 65536) :
    Calls Try.prog 18 #[.slice a len cap] w fun e w' => ∃ sv c, e = .returned (.slice sv len c) ∧ Copied w w' len sv c := by
  have hnil := Try.eqNil
  rcases h with ⟨rfl, rfl, rfl, rfl⟩ | ⟨x, rfl, hlc, hcap, hz, hcell, hwf⟩
  · go_enter Try.func18, Try.ntmps18
    go_wp2
    go_ret
    exact ⟨none, 0, rfl, Below.refl _ _, by omega, by omega, fun i hi => by omega⟩
  · have hmk := run_make_row' (P := Try.prog) 34 5 (.int .u8 0) 1 Try.underlying34 Try.info5 rfl .i64 .i64 len (by omega) (by omega)
    have hrange : ∀ i, i < len → 0 ≤ zs.getD i 0 ∧ zs.getD i 0 ≤ 255 := by
      intro i hi
      have hi' : i < zs.length := by omega
      have := bounds_u8 (hwf (zs[i]) (List.getElem_mem _))
      have e : zs.getD i 0 = zs[i] := by simp [List.getD, hi']
      rw [e]
      omega
    rcases Nat.eq_zero_or_pos len with rfl | hpos
    · have hmk0 : ∀ w : World, (Instr.makeSlice 34 (.int .i64 0) (.int .i64 0)).run Try.prog w = .ok (.slice (some ⟨w.heap.size, 0, none⟩) 0 0) (w.alloc (.cells (madeCells #[.int .u8 0] 0) 5)) := hmk
      go_enter Try.func18, Try.ntmps18
      go_wp2
      go_loopw [4] (fun i wr => i = .int .i64 0 ∧ Below w.heap.size w wr) (fun _ _ => 0)
      case atStart => exact ⟨rfl, (Below.refl _ _).alloc (Nat.le_refl _) _⟩
      case round =>
        obtain ⟨rfl, hbel⟩ := hrel
        go_wp2
        go_ret
        exact ⟨_, 0, rfl, hbel, by omega, by omega, fun i hi => by omega⟩
    obtain ⟨b, off, rfl, hx'⟩ := ints_at hcell (by omega)
    have hx : ∀ i, i < len → w.cell? ⟨b, off + i, none⟩ = some (.int .u8 (zs.getD i 0)) := fun i hi => hx' i (by omega)
    have hb : b < w.heap.size := World.block_lt_of_cell? _ _ (hx 0 hpos)
    go_enter Try.func18, Try.ntmps18
    go_wp2
    clear hmk hnil hcell hwf hx'
    go_loopw [4] (fun i wr => ∃ k : Nat, k ≤ len ∧ i = .int .i64 k ∧ Below w.heap.size w wr ∧ wr.rowIs w.heap.size 5 len (fun j => .int .u8 (if j < k then zs.getD j 0 else 0))) (fun i _ => len - (intOf i).toNat)
    case atStart => exact ⟨0, by omega, rfl, (Below.refl _ _).alloc (Nat.le_refl _) _, (World.rowIs_made w _ len 5).congr (fun i hi => by simp)⟩
    case round =>
      obtain ⟨k, hk, rfl, hbel, hrow⟩ := hrel
      by_cases hlt : k < len
      · have g1 := (hbel.cell (p := ⟨b, off + k, none⟩) hb).trans (hx k hlt)
        have g2 := hrow.cell hlt
        have g3 := hrow.frozen k
        go_wp2
        go_roundw
        case rel =>
          refine ⟨k + 1, by omega, by go_num, hbel.setCell (p := ⟨w.heap.size, k, none⟩) (Nat.le_refl _) _, (hrow.set k _).congr (fun j hj => ?_)⟩
          by_cases e : j = k
          · subst e; simp
          · rw [if_neg e]
            by_cases hjk : j < k
            · rw [if_pos hjk, if_pos (by omega)]
            · rw [if_neg hjk, if_neg (by omega)]
        case measure => simp [intOf]; omega
      · go_wp2
        go_ret
        refine ⟨_, len, rfl, hbel, by omega, by omega, fun i hi => ⟨_, _, rfl, hrow.lt, hrow.cell hi, ?_⟩⟩
        have := hrange i hi
        rw [if_pos (by omega)]
        exact this

set_option maxHeartbeats 400000 in
theorem zzA_any (w : World) (a : Option Addr) (len cap : Nat) (p b : Value) :
    Calls Try.prog 26 #[.slice a len cap, p, b] w fun e w' => (e = .returned (.bool true) ∨ e = .returned (.bool false)) ∧ w = w' := by
  by_cases h : (len : Int) ≤ 1048576
  · go_enter Try.func26, Try.ntmps26
    go_wp2
    go_ret
    exact ⟨.inl rfl, rfl⟩
  · have h' : 1048576 < (len : Int) := by omega
    go_enter Try.func26, Try.ntmps26
    go_wp2
    go_ret
    exact ⟨.inr rfl, rfl⟩

set_option maxHeartbeats 400000 in
theorem new_any (w : World) (sv : Option Addr) (n c : Nat) (p : Int) (b : Bool) :
    Calls Try.prog 22 #[.slice sv n c, .int .i64 p, .bool b] w fun e w' => e = .returned (.pointer (some ⟨w.heap.size, 0, none⟩)) ∧ w' = w.alloc (.cells #[.slice sv n c, .int .i64 p, .bool b] 58) := by
  go_enter Try.func22, Try.ntmps22
  go_wp2
  go_ret
  exact ⟨rfl, rfl⟩

set_option maxHeartbeats 400000 in
theorem state_any (w : World) (R : Nat) (sv : Option Addr) (n c pos : Nat) (bad : Bool) (h : Rd w R sv n c pos bad) :
    Calls Try.prog 24 #[.pointer (some ⟨R, 0, none⟩)] w fun e w' => e = .returned (.tuple #[.int .i64 pos, .bool bad]) ∧ Below w.heap.size w w' := by
  have c1 := h.c1
  have c2 := h.c2
  go_enter Try.func24, Try.ntmps24
  go_wp2
  go_quiet (fail)
  go_wp2
  go_ret2
  exact ⟨rfl, below_drewN (Below.refl _ _) _⟩

end Go.Proofs.Qxb6002696a
