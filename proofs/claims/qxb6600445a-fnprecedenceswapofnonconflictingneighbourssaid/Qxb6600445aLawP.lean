import Derived.Test.Qxb6600445aMarkW
import Derived.Test.Qxb6600445aGuard
namespace Go.Proofs.Qxb6600445a
open Go.RowKit Go.Maps

theorem OpsAt.below {w w' : World} {a : Option Addr} {n : Nat} {X : Nat → ByteArray} {ops : Nat → Opp} {H : Nat} (h : OpsAt w a n X ops) (hb : Below H w w') (hH : w.heap.size ≤ H) : OpsAt w' a n X ops := by
  rcases h with h | ⟨B, o, h1, h3⟩
  · exact .inl h
  · refine .inr ⟨B, o, h1, fun i hi => ?_⟩
    obtain ⟨e0, e1, e2⟩ := h3 i hi
    have hB : B < H := Nat.lt_of_lt_of_le (World.block_lt_of_cell? _ _ e0) hH
    exact ⟨(hb.cell (p := ⟨B, o + i * 3, none⟩) hB).trans e0, (hb.cell (p := ⟨B, o + i * 3 + 1, none⟩) hB).trans e1, (hb.cell (p := ⟨B, o + i * 3 + 2, none⟩) hB).trans e2⟩

/-- The operations as the law builds them. -/
def ops0 (T : Nat → Nat) (Wr : Nat → Bool) (S : Nat → ByteArray) : Nat → Opp := fun i => ⟨T i, Wr i, S i⟩

theorem OpsAt.ofRow {w : World} {b n : Nat} {X : Nat → ByteArray} {ops : Nat → Opp} {f : Nat → Value} (h : w.rowIs b 47 (n * 3) f) (hf : ∀ i, i < n → f (i * 3) = .string (X (ops i).t) ∧ f (i * 3 + 1) = .int .u8 (if (ops i).wr then 2 else 1) ∧ f (i * 3 + 2) = .string (ops i).s) : OpsAt w (some ⟨b, 0, none⟩) n X ops := by
  refine .inr ⟨b, 0, rfl, fun i hi => ?_⟩
  obtain ⟨h1, h2, h3⟩ := hf i hi
  rw [Nat.zero_add, h.cell (i := i * 3) (by omega), h.cell (i := i * 3 + 1) (by omega), h.cell (i := i * 3 + 2) (by omega), h1, h2, h3]
  exact ⟨rfl, rfl, rfl⟩

theorem LaidOps.at_ {w wr : World} {b n : Nat} {X : Nat → ByteArray} {T : Nat → Nat} {Wr : Nat → Bool} {S : Nat → ByteArray} (h : LaidOps w wr b n n X T Wr S) : OpsAt wr (some ⟨b, 0, none⟩) n X (ops0 T Wr S) := by
  obtain ⟨_, f, h1, h2⟩ := h
  exact OpsAt.ofRow h1 h2

/-- The two operations changed over. -/
def swapped (w : World) (p k : Nat) (x0 x1 x2 y0 y1 y2 : Value) : World :=
  ((((((w.setCell ⟨p, k * 3, none⟩ y0).setCell ⟨p, k * 3 + 1, none⟩ y1).setCell ⟨p, k * 3 + 2, none⟩ y2).setCell ⟨p, (k + 1) * 3, none⟩ x0).setCell ⟨p, (k + 1) * 3 + 1, none⟩ x1).setCell ⟨p, (k + 1) * 3 + 2, none⟩ x2).alloc (.cells #[x0, x1, x2] 47)

theorem swapped_below {w : World} {p k : Nat} {x0 x1 x2 y0 y1 y2 : Value} {B : Nat} (hB : B ≤ p) (hs : B ≤ w.heap.size) : Below B w (swapped w p k x0 x1 x2 y0 y1 y2) :=
  (((((((Below.refl B w).setCell (p := ⟨p, k * 3, none⟩) hB _).setCell (p := ⟨p, k * 3 + 1, none⟩) hB _).setCell (p := ⟨p, k * 3 + 2, none⟩) hB _).setCell (p := ⟨p, (k + 1) * 3, none⟩) hB _).setCell (p := ⟨p, (k + 1) * 3 + 1, none⟩) hB _).setCell (p := ⟨p, (k + 1) * 3 + 2, none⟩) hB _).alloc (by simpa [World.setCell] using hs) _

theorem swapped_ops {w : World} {p n k : Nat} {X : Nat → ByteArray} {ops : Nat → Opp} {f : Nat → Value} (h : w.rowIs p 47 (n * 3) f) (hf : ∀ i, i < n → f (i * 3) = .string (X (ops i).t) ∧ f (i * 3 + 1) = .int .u8 (if (ops i).wr then 2 else 1) ∧ f (i * 3 + 2) = .string (ops i).s)
    {x0 x1 x2 y0 y1 y2 : Value} (e0 : x0 = .string (X (ops k).t)) (e1 : x1 = .int .u8 (if (ops k).wr then 2 else 1)) (e2 : x2 = .string (ops k).s)
    (g0 : y0 = .string (X (ops (k + 1)).t)) (g1 : y1 = .int .u8 (if (ops (k + 1)).wr then 2 else 1)) (g2 : y2 = .string (ops (k + 1)).s) :
    OpsAt (swapped w p k x0 x1 x2 y0 y1 y2) (some ⟨p, 0, none⟩) n X (swp ops k) := by
  refine OpsAt.ofRow (((((((h.set (k * 3) y0).set (k * 3 + 1) y1).set (k * 3 + 2) y2).set ((k + 1) * 3) x0).set ((k + 1) * 3 + 1) x1).set ((k + 1) * 3 + 2) x2).alloc (.cells #[x0, x1, x2] 47)) (fun i hi => ?_)
  by_cases hk : i = k
  · subst hk
    have e : swp ops i i = ops (i + 1) := by simp [swp]
    rw [e, ← g0, ← g1, ← g2]
    have a1 : ¬ i * 3 = (i + 1) * 3 + 2 := by omega
    have a2 : ¬ i * 3 = (i + 1) * 3 + 1 := by omega
    have a3 : ¬ i * 3 = (i + 1) * 3 := by omega
    have b1 : ¬ i * 3 + 1 = (i + 1) * 3 + 2 := by omega
    have b2 : ¬ i * 3 + 1 = (i + 1) * 3 + 1 := by omega
    have b3 : ¬ i * 3 + 1 = (i + 1) * 3 := by omega
    have c1 : ¬ i * 3 + 2 = (i + 1) * 3 + 2 := by omega
    have c2 : ¬ i * 3 + 2 = (i + 1) * 3 + 1 := by omega
    have c3 : ¬ i * 3 + 2 = (i + 1) * 3 := by omega
    have d1 : ¬ i * 3 = i * 3 + 2 := by omega
    have d2 : ¬ i * 3 = i * 3 + 1 := by omega
    have d3 : ¬ i * 3 + 1 = i * 3 + 2 := by omega
    refine ⟨?_, ?_, ?_⟩
    · simp only [if_neg a1, if_neg a2, if_neg a3, if_neg d1, if_neg d2, if_true]
    · simp only [if_neg b1, if_neg b2, if_neg b3, if_neg d3, if_true]
    · simp only [if_neg c1, if_neg c2, if_neg c3, if_true]
  · by_cases hk1 : i = k + 1
    · subst hk1
      have e : swp ops k (k + 1) = ops k := by simp [swp]
      rw [e, ← e0, ← e1, ← e2]
      have d1 : ¬ (k + 1) * 3 = (k + 1) * 3 + 2 := by omega
      have d2 : ¬ (k + 1) * 3 = (k + 1) * 3 + 1 := by omega
      have d3 : ¬ (k + 1) * 3 + 1 = (k + 1) * 3 + 2 := by omega
      refine ⟨?_, ?_, ?_⟩
      · simp only [if_neg d1, if_neg d2, if_true]
      · simp only [if_neg d3, if_true]
      · simp only [if_true]
    · have e : swp ops k i = ops i := by simp [swp, hk, hk1]
      rw [e]
      obtain ⟨h1, h2, h3⟩ := hf i hi
      have n0 : ∀ r, r < 3 → ¬ i * 3 + r = (k + 1) * 3 + 2 ∧ ¬ i * 3 + r = (k + 1) * 3 + 1 ∧ ¬ i * 3 + r = (k + 1) * 3 ∧ ¬ i * 3 + r = k * 3 + 2 ∧ ¬ i * 3 + r = k * 3 + 1 ∧ ¬ i * 3 + r = k * 3 := fun r hr => ⟨by omega, by omega, by omega, by omega, by omega, by omega⟩
      obtain ⟨a1, a2, a3, a4, a5, a6⟩ := n0 0 (by omega)
      obtain ⟨b1, b2, b3, b4, b5, b6⟩ := n0 1 (by omega)
      obtain ⟨c1, c2, c3, c4, c5, c6⟩ := n0 2 (by omega)
      simp only [Nat.add_zero] at a1 a2 a3 a4 a5 a6
      refine ⟨?_, ?_, ?_⟩
      · simp only [if_neg a1, if_neg a2, if_neg a3, if_neg a4, if_neg a5, if_neg a6, h1]
      · simp only [if_neg b1, if_neg b2, if_neg b3, if_neg b4, if_neg b5, if_neg b6, h2]
      · simp only [if_neg c1, if_neg c2, if_neg c3, if_neg c4, if_neg c5, if_neg c6, h3]

/-- Every successor is a node. -/
theorem run_lt {ops : Nat → Opp} {n m : Nat} (h : ∀ i, i < n → (ops i).t < m) (u v : Nat) (hv : v ∈ (runF ops n).succ u) : v < m := by
  obtain ⟨i, j, _, hj, _, h2, _⟩ := ((run_ok ops n).edge u v).1 hv
  rw [← h2]
  exact h j hj

theorem swp_lt {ops : Nat → Opp} {n m k : Nat} (hk : k + 1 < n) (h : ∀ i, i < n → (ops i).t < m) (i : Nat) (hi : i < n) : (swp ops k i).t < m := by
  unfold swp
  split
  · exact h _ hk
  · split
    · exact h _ (by omega)
    · exact h _ hi

theorem swp_size {ops : Nat → Opp} {n k M : Nat} (hk : k + 1 < n) (h : ∀ i, i < n → (ops i).s.size ≤ M) (i : Nat) (hi : i < n) : (swp ops k i).s.size ≤ M := by
  unfold swp
  split
  · exact h _ hk
  · split
    · exact h _ (by omega)
    · exact h _ hi

theorem dn_all {succ : Nat → List Nat} {m x y : Nat} (hx : x < m) : Dn succ m 0 x y ↔ y ∈ succ x := by
  unfold Dn
  constructor
  · rintro (⟨_, h⟩ | ⟨h, _⟩)
    · exact h
    · omega
  · exact fun h => .inl ⟨hx, h⟩

theorem or_a : bits BinOp.or IntKind.u8 0 1 = 1 := by decide
theorem or_b : bits BinOp.or IntKind.u8 1 1 = 1 := by decide
theorem or_c : bits BinOp.or IntKind.u8 0 2 = 2 := by decide
theorem or_d : bits BinOp.or IntKind.u8 1 2 = 3 := by decide
theorem or_e : bits BinOp.or IntKind.u8 2 2 = 2 := by decide
theorem or_f : bits BinOp.or IntKind.u8 3 2 = 3 := by decide

theorem cell_form {m c : Nat} (hc : c < m * m) : ∃ x y, x < m ∧ y < m ∧ c = x * m + y := by
  have hm : 0 < m := by
    rcases Nat.eq_zero_or_pos m with h | h
    · subst h; omega
    · exact h
  exact ⟨c / m, c % m, Nat.div_lt_of_lt_mul hc, Nat.mod_lt _ hm, by rw [Nat.mul_comm]; exact (Nat.div_add_mod c m).symm⟩

/-- Behind the first marking: a row of zeros and ones. -/
theorem MarkSt.first {w wr : World} {mb m : Nat} {succ : Nat → List Nat} (h : MarkSt w wr mb m succ (fun _ => 0) (fun _ => 1) m 0) :
    Turned (fun b => b = mb) w wr ∧ ∃ Z : Nat → Int, wr.rowIs mb 5 (m * m) (fun c => .int .u8 (Z c)) ∧ (∀ c, Z c = 0 ∨ Z c = 1) ∧ ∀ x y, x < m → y < m → (y ∈ succ x → Z (x * m + y) = 1) ∧ (¬ y ∈ succ x → Z (x * m + y) = 0) := by
  obtain ⟨ht, Z, hrow, hZ⟩ := h
  refine ⟨ht, fun c => if c < m * m then Z c else 0, hrow.congr (fun c hc => by simp [hc]), fun c => ?_, fun x y hx hy => ?_⟩
  · by_cases hc : c < m * m
    · obtain ⟨x, y, hx, hy, rfl⟩ := cell_form hc
      simp only [if_pos hc]
      by_cases hD : Dn succ m 0 x y
      · exact .inr ((hZ x y hx hy).1 hD)
      · exact .inl ((hZ x y hx hy).2 hD)
    · simp only [if_neg hc]
      exact .inl trivial
  · simp only [if_pos (cell_lt hx hy)]
    rw [← dn_all hx]
    exact hZ x y hx hy

/-- Behind both: every cell holds 0 or 3. -/
theorem MarkSt.second {w wr : World} {mb m : Nat} {succ succ2 : Nat → List Nat} {Z : Nat → Int} (hZ : ∀ x y, x < m → y < m → (y ∈ succ x → Z (x * m + y) = 1) ∧ (¬ y ∈ succ x → Z (x * m + y) = 0))
    (h : MarkSt w wr mb m succ2 Z (fun c => bits BinOp.or IntKind.u8 (Z c) 2) m 0) (he : ∀ x y, y ∈ succ x ↔ y ∈ succ2 x) :
    ∃ Z2 : Nat → Int, wr.rowIs mb 5 (m * m) (fun c => .int .u8 (Z2 c)) ∧ ∀ c, c < m * m → Z2 c = 0 ∨ Z2 c = 3 := by
  obtain ⟨_, Z2, hrow, h2⟩ := h
  refine ⟨Z2, hrow, fun c hc => ?_⟩
  obtain ⟨x, y, hx, hy, rfl⟩ := cell_form hc
  by_cases hm : y ∈ succ x
  · right
    rw [(h2 x y hx hy).1 ((dn_all hx).2 ((he x y).1 hm))]
    show bits BinOp.or IntKind.u8 (Z (x * m + y)) 2 = 3
    rw [(hZ x y hx hy).1 hm]
    exact or_d
  · left
    rw [(h2 x y hx hy).2 (fun hd => hm ((he x y).2 ((dn_all hx).1 hd))), (hZ x y hx hy).2 hm]

end Go.Proofs.Qxb6600445a
