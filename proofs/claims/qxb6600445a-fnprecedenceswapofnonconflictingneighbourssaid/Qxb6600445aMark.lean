import Derived.Test.Qxb6600445aPrec
namespace Go.Proofs.Qxb6600445a
open Go.RowKit Go.Maps

/-- The successors' rows as they lie. -/
def SuccAt (w : World) (ob m : Nat) (G : Nat → Value) (succ : Nat → List Nat) : Prop :=
  w.rowIs ob 42 m G ∧ ∀ u, u < m → w.ownsRow 0 3 1 (G u) (succ u).length (ints (succ u))

theorem SuccAt.same {w w' : World} {ob m : Nat} {G : Nat → Value} {succ : Nat → List Nat} {x : Nat} {T : TypeId} {cs : Array Value} {f : Nat × Nat} (h : SuccAt w ob m G succ) (hx : w.heap[x]? = some (.cells cs T f)) (h3 : T ≠ 3) (h42 : T ≠ 42) (hb : ∀ b, b < w.heap.size → b ≠ x → w'.heap[b]? = w.heap[b]?) : SuccAt w' ob m G succ := by
  obtain ⟨cs', ho⟩ := rowIs_block h.1
  refine ⟨h.1.of_block (hb ob h.1.lt (fun e => ?_)), fun u hu => ownsRow_same (h.2 u hu) (fun b e => hb b ((h.2 u hu).lt b e).2 (fun e2 => ownsRow_far (h.2 u hu) h3 hx (by rw [e, e2])))⟩
  rw [e, hx] at ho
  simp at ho
  exact h42 ho.2.1

theorem SuccAt.below {w w' : World} {ob m : Nat} {G : Nat → Value} {succ : Nat → List Nat} (h : SuccAt w ob m G succ) {H : Nat} (hb : Below H w w') (hH : w.heap.size ≤ H) : SuccAt w' ob m G succ :=
  ⟨h.1.of_block (hb.block _ (Nat.lt_of_lt_of_le h.1.lt hH)), fun u hu => ownsRow_same (h.2 u hu) (fun b e => hb.block b (Nat.lt_of_lt_of_le ((h.2 u hu).lt b e).2 hH))⟩

/-- What ZZPrecedenceSucc leaves. -/
def SuccOut (w w' : World) (e : Ending) (m : Nat) (succ : Nat → List Nat) : Prop :=
  ∃ ob G, e = .returned (.slice (some ⟨ob, 0, none⟩) m m) ∧ Below w.heap.size w w' ∧ SuccAt w' ob m G succ

set_option maxHeartbeats 1000000 in
theorem succ_any (a : Option Addr) (n c : Nat) (ax : Option Addr) (m cx : Nat) (X : Nat → ByteArray) (ops : Nat → Opp) (w : World) (h : OpsAt w a n X ops) (hx : SlV w ax m (fun i => .string (X i))) (hn : n ≤ 4096) (hm : m ≤ 256)
    (hd : ∀ i j, i < m → j < m → X i = X j → i = j) (hsz : ∀ i, i < m → (X i).size ≤ 1048576) (ht : ∀ i, i < n → (ops i).t < m) (hs : ∀ i, i < n → (ops i).s.size ≤ 1048576) :
    Calls Try.prog 19 #[.slice a n c, .slice ax m cx] w fun e w' => SuccOut w w' e m (runF ops n).succ := by
  have HC := prec_any a n c ax m cx X ops w h hx hn hm hd hsz ht hs
  clear h hx hd hsz ht hs
  go_enter Try.func19, Try.ntmps19
  go_wp2_with (go_at_call 32; refine HC.mono ?_)
  rintro e w' ⟨gb, F, rfl, hb, ⟨ob, eb, G, M, hgb, hrow, hown, _⟩, _⟩
  have c0 : w'.cell? ⟨gb, 0, none⟩ = some (.slice (some ⟨ob, 0, none⟩) m m) := by rw [Lib.cell_of_heap hgb]; rfl
  have HO : Hid (SuccAt w' ob m G (runF ops n).succ) := ⟨hrow, hown⟩
  clear HC hgb hrow hown
  go_wp2
  go_ret
  exact ⟨ob, G, rfl, hb, HO.out⟩

theorem row_slice {w : World} {v : Value} {fl : List Nat} (h : w.ownsRow 0 3 1 v fl.length (ints fl)) : ∃ ga cap, v = .slice ga fl.length cap ∧ SlV w ga fl.length (fun i => .int .i64 (fl.getD i 0 : Nat)) := by
  rcases id h.2 with ⟨rfl, h0⟩ | ⟨g, cap, cur, rfl, _⟩
  · exact ⟨none, 0, by rw [h0], .inl h0⟩
  · have := tail_cells (d := 0) h
    simp only [Nat.sub_zero, Nat.zero_add] at this
    exact ⟨_, _, rfl, this⟩

/-- What is marked behind u rows and k of the next. -/
def Dn (succ : Nat → List Nat) (u k x y : Nat) : Prop := (x < u ∧ y ∈ succ x) ∨ (x = u ∧ y ∈ (succ u).take k)

/-- The marks' value. -/
def MarkSt (w wr : World) (mb m : Nat) (succ : Nat → List Nat) (Z0 tp : Nat → Int) (u k : Nat) : Prop :=
  Turned (fun b => b = mb) w wr ∧ ∃ Z : Nat → Int, wr.rowIs mb 5 (m * m) (fun c => .int .u8 (Z c)) ∧ ∀ x y, x < m → y < m → (Dn succ u k x y → Z (x * m + y) = tp (x * m + y)) ∧ (¬ Dn succ u k x y → Z (x * m + y) = Z0 (x * m + y))

theorem cell_one {m x y u v : Nat} (hy : y < m) (hv : v < m) (h : x * m + y = u * m + v) : x = u ∧ y = v := by
  have h1 : (x * m + y) / m = x := by rw [Nat.mul_comm, Nat.mul_add_div (by omega), Nat.div_eq_of_lt hy]; rfl
  have h2 : (u * m + v) / m = u := by rw [Nat.mul_comm, Nat.mul_add_div (by omega), Nat.div_eq_of_lt hv]; rfl
  have h3 : x = u := by rw [← h1, h, h2]
  subst h3
  exact ⟨rfl, by omega⟩

theorem cell_lt {m u v : Nat} (hu : u < m) (hv : v < m) : u * m + v < m * m := by
  have : (u + 1) * m ≤ m * m := Nat.mul_le_mul_right m hu
  rw [Nat.add_mul] at this
  omega

theorem Turned.setCell {F : Nat → Prop} {w wr : World} (h : Turned F w wr) {B i : Nat} (hF : F B) (v : Value) : Turned F w (wr.setCell ⟨B, i, none⟩ v) :=
  ⟨h.os, h.tape, h.output, by simpa [World.setCell] using h.size, fun b hb hn => (Below.heap_setCell _ _ _ _ (by show b ≠ B; exact fun e => hn (e ▸ hF))).trans (h.block b hb hn)⟩

/-- One more is marked. -/
theorem MarkSt.step {w wr : World} {mb m : Nat} {succ : Nat → List Nat} {Z0 tp : Nat → Int} {u k : Nat} (h : MarkSt w wr mb m succ Z0 tp u k) {v : Nat} (hu : u < m) (hv : v < m) (htk : (succ u).take (k + 1) = (succ u).take k ++ [v]) :
    MarkSt w (wr.setCell ⟨mb, u * m + v, none⟩ (.int .u8 (tp (u * m + v)))) mb m succ Z0 tp u (k + 1) := by
  obtain ⟨ht, Z, hrow, hZ⟩ := h
  refine ⟨ht.setCell rfl _, fun c => if c = u * m + v then tp (u * m + v) else Z c, (hrow.set (u * m + v) _).congr (fun c _ => ?_), fun x y hx hy => ?_⟩
  · by_cases e : c = u * m + v <;> simp [e]
  · by_cases e : x * m + y = u * m + v
    · obtain ⟨rfl, rfl⟩ := cell_one hy hv e
      refine ⟨fun _ => by simp, fun hn => (hn (.inr ⟨rfl, by rw [htk]; simp⟩)).elim⟩
    · have hne : ¬ (x = u ∧ y = v) := by rintro ⟨rfl, rfl⟩; exact e rfl
      have hD : Dn succ u (k + 1) x y ↔ Dn succ u k x y := by
        unfold Dn
        rw [htk]
        simp only [List.mem_append, List.mem_singleton]
        constructor
        · rintro (h1 | ⟨h1, h2 | h2⟩)
          · exact .inl h1
          · exact .inr ⟨h1, h2⟩
          · exact (hne ⟨h1, h2⟩).elim
        · rintro (h1 | ⟨h1, h2⟩)
          · exact .inl h1
          · exact .inr ⟨h1, .inl h2⟩
      simp only [if_neg e]
      rw [hD]
      exact hZ x y hx hy

theorem MarkSt.next {w wr : World} {mb m : Nat} {succ : Nat → List Nat} {Z0 tp : Nat → Int} {u : Nat} (h : MarkSt w wr mb m succ Z0 tp u (succ u).length) : MarkSt w wr mb m succ Z0 tp (u + 1) 0 := by
  obtain ⟨ht, Z, hrow, hZ⟩ := h
  refine ⟨ht, Z, hrow, fun x y hx hy => ?_⟩
  have hD : Dn succ (u + 1) 0 x y ↔ Dn succ u (succ u).length x y := by
    unfold Dn
    rw [List.take_length, List.take_zero]
    constructor
    · rintro (⟨h1, h2⟩ | ⟨_, h2⟩)
      · by_cases e : x = u
        · subst e; exact .inr ⟨rfl, h2⟩
        · exact .inl ⟨by omega, h2⟩
      · cases h2
    · rintro (⟨h1, h2⟩ | ⟨rfl, h2⟩)
      · exact .inl ⟨by omega, h2⟩
      · exact .inl ⟨by omega, h2⟩
  rw [hD]
  exact hZ x y hx hy

end Go.Proofs.Qxb6600445a
