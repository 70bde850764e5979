import Derived.Test.Qxb6003656aRows
import Derived.WalkKit
import Derived.Below
import Derived.Deep.QuietTactic
import Derived.BigQuiet
import Derived.WalkLawsBesides
import Derived.WalkSpells
import Derived.Deep.OwnRows
import Derived.OpenShut
namespace Go.Proofs.Qxb6003656a
open Go.RowKit

/-- n cells behind the address: cell i holds f i. -/
def SlV (w : World) (a : Option Addr) (n : Nat) (f : Nat → Value) : Prop :=
  n = 0 ∨ ∃ B o, a = some ⟨B, o, none⟩ ∧ ∀ i, i < n → w.cell? ⟨B, o + i, none⟩ = some (f i)

/-- .. in a block from B0 on, not frozen. -/
def FSl (w : World) (B0 : Nat) (a : Option Addr) (n : Nat) (f : Nat → Value) : Prop :=
  n = 0 ∨ ∃ B o, a = some ⟨B, o, none⟩ ∧ B0 ≤ B ∧ B < w.heap.size ∧ ∀ i, i < n → w.cell? ⟨B, o + i, none⟩ = some (f i) ∧ w.frozen? ⟨B, o + i, none⟩ = false

theorem FSl.toSlV {w : World} {B0 : Nat} {a : Option Addr} {n : Nat} {f : Nat → Value} (h : FSl w B0 a n f) : SlV w a n f := by
  rcases h with h | ⟨B, o, h1, h2, _, h3⟩
  · exact .inl h
  · exact .inr ⟨B, o, h1, fun i hi => (h3 i hi).1⟩

theorem SlV.below {w w' : World} {a : Option Addr} {n : Nat} {f : Nat → Value} {H : Nat} (h : SlV w a n f) (hb : Below H w w') (hH : w.heap.size ≤ H) : SlV w' a n f := by
  rcases h with h | ⟨B, o, h1, h3⟩
  · exact .inl h
  · refine .inr ⟨B, o, h1, fun i hi => ?_⟩
    rw [hb.cell (p := ⟨B, o + i, none⟩) (Nat.lt_of_lt_of_le (World.block_lt_of_cell? _ _ (h3 i hi)) hH)]
    exact h3 i hi

theorem FSl.below {w w' : World} {B0 : Nat} {a : Option Addr} {n : Nat} {f : Nat → Value} {H : Nat} (h : FSl w B0 a n f) (hb : Below H w w') (hH : w.heap.size ≤ H) : FSl w' B0 a n f := by
  rcases h with h | ⟨B, o, h1, h2, hl, h3⟩
  · exact .inl h
  · refine .inr ⟨B, o, h1, h2, Nat.lt_of_lt_of_le hl hb.size, fun i hi => ?_⟩
    have hlt : B < H := Nat.lt_of_lt_of_le hl hH
    rw [hb.cell (p := ⟨B, o + i, none⟩) hlt, hb.frozen (p := ⟨B, o + i, none⟩) hlt]
    exact h3 i hi

theorem SlV.drewN {w : World} {a : Option Addr} {n : Nat} {f : Nat → Value} (h : SlV w a n f) (q : Nat) : SlV (w.drewN q) a n f :=
  h.below (H := w.heap.size) (below_drewN (Below.refl _ _) q) (Nat.le_refl _)

theorem FSl.drewN {w : World} {B0 : Nat} {a : Option Addr} {n : Nat} {f : Nat → Value} (h : FSl w B0 a n f) (q : Nat) : FSl (w.drewN q) B0 a n f :=
  h.below (H := w.heap.size) (below_drewN (Below.refl _ _) q) (Nat.le_refl _)

theorem Try.info9 : (Try.prog.info? 9).map (fun i => (i.zero, i.size, i.bytes)) = some (some (.string ByteArray.empty), 1, 16) := by kernel_rfl
theorem Try.eqNil29 (w : World) (a : Option Addr) (n c n' c' : Nat) : (binOp .eql 29 (.slice a n c) (.slice none n' c')).run Try.prog w = .ok (.bool a.isNone) w := Lib.run_eql_slice_nil w _ _ a n c n' c' Try.underlying29
theorem Try.eqNil33 (w : World) (a : Option Addr) (n c n' c' : Nat) : (binOp .eql 33 (.slice a n c) (.slice none n' c')).run Try.prog w = .ok (.bool a.isNone) w := Lib.run_eql_slice_nil w _ _ a n c n' c' Try.underlying33

theorem SlV.congr {w w' : World} {a : Option Addr} {n : Nat} {f : Nat → Value} (h : SlV w a n f) (e : w'.heap = w.heap) : SlV w' a n f := by
  rcases h with h | ⟨B, o, h1, h3⟩
  · exact .inl h
  · refine .inr ⟨B, o, h1, fun i hi => ?_⟩
    have := h3 i hi
    unfold World.cell? at this ⊢
    rw [e]
    exact this

theorem FSl.mono {w : World} {B0 B1 : Nat} {a : Option Addr} {n : Nat} {f : Nat → Value} (h : FSl w B0 a n f) (hB : B1 ≤ B0) : FSl w B1 a n f := by
  rcases h with h | ⟨B, o, h1, h2, h3⟩
  · exact .inl h
  · exact .inr ⟨B, o, h1, by omega, h3⟩

/-- A store into a block below. -/
theorem FSl.set {w : World} {B0 : Nat} {a : Option Addr} {n : Nat} {f : Nat → Value} (h : FSl w B0 a n f) (N off : Nat) (hN : N < B0) (v : Value) : FSl (w.setCell ⟨N, off, none⟩ v) B0 a n f := by
  rcases h with h | ⟨B, o, h1, h2, hl, h3⟩
  · exact .inl h
  · refine .inr ⟨B, o, h1, h2, by simpa [World.setCell] using hl, fun i hi => ?_⟩
    have hb : (w.setCell ⟨N, off, none⟩ v).heap[B]? = w.heap[B]? := Below.heap_setCell _ _ _ _ (by show B ≠ N; omega)
    rw [World.cell?_of_block (w := w) hb, World.frozen?_of_block (w := w) hb]
    exact h3 i hi

/-- A call's three cells. -/
def CallAt (w : World) (B off : Nat) (p : ByteArray) (a : Option Addr) (l c : Nat) (t : Int) : Prop :=
  w.cell? ⟨B, off, none⟩ = some (.string p) ∧ w.cell? ⟨B, off + 1, none⟩ = some (.slice a l c) ∧ w.cell? ⟨B, off + 2, none⟩ = some (.int .i64 t)

/-- A slice of n calls. -/
def CA (w : World) (a : Option Addr) (n : Nat) (P : Nat → ByteArray) (A : Nat → Option Addr) (L C : Nat → Nat) (T : Nat → Int) (S : Nat → Nat → ByteArray) : Prop :=
  n = 0 ∨ ∃ B o, a = some ⟨B, o, none⟩ ∧ ∀ i, i < n → CallAt w B (o + i * 3) (P i) (A i) (L i) (C i) (T i) ∧ SlV w (A i) (L i) (fun j => .string (S i j)) ∧ (A i = none → L i = 0 ∧ C i = 0)

/-- .. in memory of one's own, from block B0 on. -/
def FCA (w : World) (B0 : Nat) (a : Option Addr) (n : Nat) (P : Nat → ByteArray) (A : Nat → Option Addr) (L C : Nat → Nat) (T : Nat → Int) (S : Nat → Nat → ByteArray) : Prop :=
  n = 0 ∨ ∃ B, a = some ⟨B, 0, none⟩ ∧ B0 ≤ B ∧ B < w.heap.size ∧ ∀ i, i < n → CallAt w B (i * 3) (P i) (A i) (L i) (C i) (T i) ∧ FSl w (B + 1) (A i) (L i) (fun j => .string (S i j)) ∧ (A i = none → L i = 0 ∧ C i = 0)

theorem CallAt.below {w w' : World} {B off : Nat} {p : ByteArray} {a : Option Addr} {l c : Nat} {t : Int} {H : Nat} (h : CallAt w B off p a l c t) (hb : Below H w w') (hH : w.heap.size ≤ H) : CallAt w' B off p a l c t := by
  have hlt : B < H := Nat.lt_of_lt_of_le (World.block_lt_of_cell? _ _ h.1) hH
  unfold CallAt
  rw [hb.cell (p := ⟨B, off, none⟩) hlt, hb.cell (p := ⟨B, off + 1, none⟩) hlt, hb.cell (p := ⟨B, off + 2, none⟩) hlt]
  exact h

theorem CA.below {w w' : World} {a : Option Addr} {n : Nat} {P : Nat → ByteArray} {A : Nat → Option Addr} {L C : Nat → Nat} {T : Nat → Int} {S : Nat → Nat → ByteArray} {H : Nat} (h : CA w a n P A L C T S) (hb : Below H w w') (hH : w.heap.size ≤ H) : CA w' a n P A L C T S := by
  rcases h with h | ⟨B, o, h1, h2⟩
  · exact .inl h
  · exact .inr ⟨B, o, h1, fun i hi => ⟨(h2 i hi).1.below hb hH, (h2 i hi).2.1.below hb hH, (h2 i hi).2.2⟩⟩

theorem FCA.below {w w' : World} {B0 : Nat} {a : Option Addr} {n : Nat} {P : Nat → ByteArray} {A : Nat → Option Addr} {L C : Nat → Nat} {T : Nat → Int} {S : Nat → Nat → ByteArray} {H : Nat} (h : FCA w B0 a n P A L C T S) (hb : Below H w w') (hH : w.heap.size ≤ H) : FCA w' B0 a n P A L C T S := by
  rcases h with h | ⟨B, h1, h2, h3, h4⟩
  · exact .inl h
  · exact .inr ⟨B, h1, h2, Nat.lt_of_lt_of_le h3 hb.size, fun i hi => ⟨(h4 i hi).1.below hb hH, (h4 i hi).2.1.below hb hH, (h4 i hi).2.2⟩⟩

theorem FCA.toCA {w : World} {B0 : Nat} {a : Option Addr} {n : Nat} {P : Nat → ByteArray} {A : Nat → Option Addr} {L C : Nat → Nat} {T : Nat → Int} {S : Nat → Nat → ByteArray} (h : FCA w B0 a n P A L C T S) : CA w a n P A L C T S := by
  rcases h with h | ⟨B, h1, h2, h3, h4⟩
  · exact .inl h
  · exact .inr ⟨B, 0, h1, fun i hi => ⟨by rw [Nat.zero_add]; exact (h4 i hi).1, (h4 i hi).2.1.toSlV, (h4 i hi).2.2⟩⟩

/-- What slices.Clone of a slice of strings leaves. -/
def Cloned (w w' : World) (e : Ending) (n : Nat) (S : Nat → ByteArray) : Prop :=
  ∃ a' c', e = .returned (.slice a' n c') ∧ Below w.heap.size w w' ∧ FSl w' w.heap.size a' n (fun j => .string (S j)) ∧ (a' = none → n = 0 ∧ c' = 0)

set_option maxHeartbeats 1000000 in
theorem clone_any (a : Option Addr) (n c : Nat) (S : Nat → ByteArray) (w : World) (h : SlV w a n (fun j => .string (S j))) (hn : n ≤ 1048576) (hnil : a = none → n = 0 ∧ c = 0) :
    Calls Try.prog 27 #[.slice a n c] w fun e w' => Cloned w w' e n S := by
  have hq := Try.eqNil29
  cases a with
  | none =>
    obtain ⟨rfl, rfl⟩ := hnil rfl
    go_enter Try.func27, Try.ntmps27
    go_wp2
    go_ret
    exact ⟨none, 0, rfl, Below.refl _ _, .inl rfl, fun _ => ⟨rfl, rfl⟩⟩
  | some x =>
    obtain ⟨i0, hi, hz0, hz1, hz2⟩ := info_parts Try.info9
    have HC : Hid (∀ j u, ((List.range n).map (fun j => Value.string (S j)))[j]? = some u → w.cell? (x.add j) = some u) := by
      intro j u hj
      have hjn : j < n := by
        have := (List.getElem?_eq_some_iff.1 hj).1
        simpa using this
      rcases h with h | ⟨B, o, h1, h3⟩
      · omega
      · simp only [Option.some.injEq] at h1
        subst h1
        rw [Addr.add_lit, h3 j hjn]
        simpa [hjn] using hj
    clear h hnil
    go_enter Try.func27, Try.ntmps27
    go_wp2_with (at_builtin; refine wpList_append_own _ rfl _ _ 29 rfl w.heap.size 9 i0 (.string ByteArray.empty) 1 16 Try.underlying29 hi hz0 hz1 hz2 rfl (by decide) _ _ _ rfl (World.ownsRow_made w #[] 0 (Nat.le_refl _) (Nat.zero_le _) rfl) x n c ((List.range n).map (fun j => Value.string (S j))) rfl ?qc1 ?qc2 ?qc3 ?qc4 ?qc5 ?qc6 ?_)
    case qc1 => simp
    case qc2 =>
      intro j u hj
      exact Lib.cell?_alloc_some _ (HC.out j u hj)
    case qc3 => intro u hu; obtain ⟨y, _, rfl⟩ := List.mem_map.1 hu; rfl
    case qc4 => unfold maxLen; omega
    case qc5 => omega
    case qc6 => simp
    intro v' w1 hown hgrow hnil
    have hb : Below w.heap.size w w1 := ((Below.refl _ w).alloc (Nat.le_refl _) _).grown hgrow (by simp) (by intro k hk; simp [Value.ownBlock] at hk; omega)
    have hown : w1.ownsRow w.heap.size 9 1 v' n ((List.range n).map (fun j => Value.string (S j))) := by simpa using hown
    have hex : ∃ a' c', v' = .slice a' n c' ∧ FSl w1 w.heap.size a' n (fun j => .string (S j)) ∧ (a' = none → n = 0 ∧ c' = 0) := by
      rcases hown.2 with ⟨h1, h2⟩ | ⟨g, cap, cur, h1, h2, h3, h4⟩
      · exact ⟨none, 0, by rw [h1, h2], .inl h2, fun _ => ⟨h2, rfl⟩⟩
      · subst h1
        refine ⟨_, cap, rfl, .inr ⟨g, 0, rfl, h2, (Array.getElem?_eq_some_iff.1 h3).1, fun i hi => ?_⟩, fun h => by cases h⟩
        rw [Nat.zero_add]
        refine ⟨?_, hown.frozenAt i⟩
        rw [hown.cellAt i (by omega)]
        simp [hi]
    obtain ⟨a', c', hv, hf, hn0⟩ := hex
    rw [hv]
    clear hown hgrow hnil HC
    go_wp2
    go_ret
    exact ⟨a', c', rfl, hb, hf, hn0⟩

end Go.Proofs.Qxb6003656a
