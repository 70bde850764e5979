import Derived.Test.Qxb6600445aGraph
namespace Go.Proofs.Qxb6600445a
open Go.RowKit Go.Maps

/-- An item in blocks of Fp: its block, its two rows, its map, its accesses. -/
structure ItemAt (w : World) (Fp : Nat → Prop) (li : Nat) (it : Itm) (W A : Value) (lm : Nat) (MB : Value → Option Value) (LA : Nat → Nat) : Prop where
  blk : w.heap[li]? = some (.cells #[W, A, .map (some lm)] 76 (0, 0))
  rw_ : w.ownsRow 0 3 1 W it.wr.length (ints it.wr)
  ra : w.ownsRow 0 3 1 A it.ac.length (ints it.ac)
  apart : ∀ b, W.ownBlock = some b → A.ownBlock ≠ some b
  map : MapIs Try.prog 3 w lm MB
  at_ : ∀ t : Nat, MB (.int .i64 t) = (it.acc t).map fun _ => .pointer (some ⟨LA t, 0, none⟩)
  acc : ∀ t a, it.acc t = some a → w.heap[LA t]? = some (.cells #[.int .i64 a.d0, .int .i64 a.d1, .bool a.wrote] 80 (0, 0))
  inj : ∀ t t', (it.acc t).isSome = true → (it.acc t').isSome = true → LA t = LA t' → t = t'
  f1 : Fp li
  f2 : Fp lm
  f3 : ∀ b, W.ownBlock = some b → Fp b
  f4 : ∀ b, A.ownBlock = some b → Fp b
  f5 : ∀ t, (it.acc t).isSome = true → Fp (LA t)

def ItemRep (w : World) (Fp : Nat → Prop) (li : Nat) (it : Itm) : Prop := ∃ W A lm MB LA, ItemAt w Fp li it W A lm MB LA

theorem some_lt {w : World} {b : Nat} {o : Obj} (h : w.heap[b]? = some o) : b < w.heap.size := (Array.getElem?_eq_some_iff.1 h).1

/-- .. where no block of it has turned. -/
theorem ItemAt.same {w w' : World} {Fp Fp' : Nat → Prop} {li : Nat} {it : Itm} {W A : Value} {lm : Nat} {MB : Value → Option Value} {LA : Nat → Nat} (h : ItemAt w Fp li it W A lm MB LA) (hb : ∀ b, b < w.heap.size → Fp b → w'.heap[b]? = w.heap[b]?) (hF : ∀ b, b < w.heap.size → Fp b → Fp' b) : ItemAt w' Fp' li it W A lm MB LA := by
  obtain ⟨h1, h2, h3, h4, h5, h6, h7, h8, f1, f2, f3, f4, f5⟩ := h
  have hla : ∀ t, (it.acc t).isSome = true → LA t < w.heap.size := fun t ht => by
    obtain ⟨a, ha⟩ := Option.isSome_iff_exists.1 ht
    exact some_lt (h7 t a ha)
  exact ⟨(hb li (some_lt h1) f1).trans h1, ownsRow_same h2 (fun b e => hb b (h2.lt b e).2 (f3 b e)), ownsRow_same h3 (fun b e => hb b (h3.lt b e).2 (f4 b e)), h4, h5.of_block (hb lm h5.lt f2), h6,
    fun t a ha => (hb (LA t) (some_lt (h7 t a ha)) (f5 t (by rw [ha]; rfl))).trans (h7 t a ha), h8, hF _ (some_lt h1) f1, hF _ h5.lt f2, fun b e => hF _ (h2.lt b e).2 (f3 b e), fun b e => hF _ (h3.lt b e).2 (f4 b e), fun t ht => hF _ (hla t ht) (f5 t ht)⟩

/-- A new item. -/
theorem ItemAt.new (w : World) : ItemAt ((w.alloc (.map #[] 0)).alloc (.cells #[.slice none 0 0, .slice none 0 0, .map (some w.heap.size)] 76)) (fun b => w.heap.size ≤ b) (w.heap.size + 1) ⟨[], [], fun _ => none⟩ (.slice none 0 0) (.slice none 0 0) w.heap.size (fun _ => none) (fun _ => 0) := by
  refine ⟨?_, World.ownsRow_nil _ _ _ _, World.ownsRow_nil _ _ _ _, fun b h => (by simp [Value.ownBlock] at h), ?_, fun t => rfl, fun t a h => (by cases h), fun t t' h => (by cases h), Nat.le_succ _, Nat.le_refl _, fun b h => (by simp [Value.ownBlock] at h), fun b h => (by simp [Value.ownBlock] at h), fun t h => (by cases h)⟩
  · have := heap_alloc_new (w.alloc (.map #[] 0)) (.cells #[.slice none 0 0, .slice none 0 0, .map (some w.heap.size)] 76)
    simpa using this
  · exact (MapIs.made Try.prog 3 w).of_block (Below.heap_alloc _ _ _ (by simp))

/-- The access's cells turn. -/
theorem ItemAt.setAcc {w w' : World} {Fp : Nat → Prop} {li : Nat} {it : Itm} {W A : Value} {lm : Nat} {MB : Value → Option Value} {LA : Nat → Nat} (h : ItemAt w Fp li it W A lm MB LA) {t : Nat} {a a' : Acc} (ha : it.acc t = some a)
    (hn : w'.heap[LA t]? = some (.cells #[.int .i64 a'.d0, .int .i64 a'.d1, .bool a'.wrote] 80 (0, 0))) (hb : ∀ b, b ≠ LA t → w'.heap[b]? = w.heap[b]?) : ItemAt w' Fp li (setAcc it t a') W A lm MB LA := by
  have hs : ∀ x, ((Go.Proofs.Qxb6600445a.setAcc it t a').acc x).isSome = (it.acc x).isSome := fun x => by
    by_cases e : x = t
    · subst e; simp [Go.Proofs.Qxb6600445a.setAcc, ha]
    · simp [Go.Proofs.Qxb6600445a.setAcc, e]
  have hla := h.acc t a ha
  have n1 : li ≠ LA t := by rintro e; have := h.blk; rw [e, hla] at this; simp at this
  have n2 : lm ≠ LA t := fun e => notMap_of_cells h.map hla e.symm
  refine ⟨(hb li n1).trans h.blk, ownsRow_same h.rw_ (fun b e => hb b (fun e2 => ownsRow_far h.rw_ (by decide) hla (by rw [e, e2]))), ownsRow_same h.ra (fun b e => hb b (fun e2 => ownsRow_far h.ra (by decide) hla (by rw [e, e2]))), h.apart, h.map.of_block (hb lm n2), fun x => ?_, fun x b hx => ?_, fun x x' hx hx' e => h.inj x x' (by rw [← hs]; exact hx) (by rw [← hs]; exact hx') e, h.f1, h.f2, h.f3, h.f4, fun x hx => h.f5 x (by rw [← hs]; exact hx)⟩
  · rw [h.at_]
    by_cases e : x = t
    · subst e; simp [Go.Proofs.Qxb6600445a.setAcc, ha]
    · simp [Go.Proofs.Qxb6600445a.setAcc, e]
  · by_cases e : x = t
    · subst e
      simp only [Go.Proofs.Qxb6600445a.setAcc, if_true, Option.some.injEq] at hx
      subst hx
      exact hn
    · simp only [Go.Proofs.Qxb6600445a.setAcc, if_neg e] at hx
      rw [hb (LA x) (fun e2 => e (h.inj x t (by rw [hx]; rfl) (by rw [ha]; rfl) e2))]
      exact h.acc x b hx

/-- The transaction's first access: a new block, and its entry in the item's map. -/
theorem ItemAt.addAcc {w w' : World} {Fp : Nat → Prop} {li : Nat} {it : Itm} {W A : Value} {lm : Nat} {MB MB' : Value → Option Value} {LA : Nat → Nat} (h : ItemAt w Fp li it W A lm MB LA) {t : Nat} (ha : it.acc t = none)
    (hm : MapIs Try.prog 3 w' lm MB') (hg : (w.alloc (.cells #[.int .i64 0, .int .i64 0, .bool false] 80)).grownBy w' (some lm)) (h1 : MB' (.int .i64 t) = some (.pointer (some ⟨w.heap.size, 0, none⟩))) (h2 : ∀ y, y ≠ .int .i64 t → MB' y = MB y) :
    ItemAt w' (fun b => Fp b ∨ w.heap.size ≤ b) li ⟨it.wr, it.ac, fun x => if x = t then some ⟨0, 0, false⟩ else it.acc x⟩ W A lm MB' (fun x => if x = t then w.heap.size else LA x) := by
  have hbl : ∀ b, b < w.heap.size → b ≠ lm → w'.heap[b]? = w.heap[b]? := fun b hb hne => (hg.block b (by simp; omega) (by simpa using hne)).trans (Below.heap_alloc _ _ _ hb)
  have hnew : w'.heap[w.heap.size]? = some (.cells #[.int .i64 0, .int .i64 0, .bool false] 80 (0, 0)) := (hg.block _ (by simp) (by have := h.map.lt; simp; omega)).trans (heap_alloc_new _ _)
  have hla : ∀ x a, it.acc x = some a → LA x < w.heap.size := fun x a hx => some_lt (h.acc x a hx)
  have n1 : li ≠ lm := notMap_of_cells h.map h.blk
  refine ⟨(hbl li (some_lt h.blk) n1).trans h.blk, ownsRow_same h.rw_ (fun b e => hbl b (h.rw_.lt b e).2 (fun e2 => ownsRow_notMap h.rw_ h.map (by rw [e, e2]))), ownsRow_same h.ra (fun b e => hbl b (h.ra.lt b e).2 (fun e2 => ownsRow_notMap h.ra h.map (by rw [e, e2]))), h.apart, hm, fun x => ?_, fun x a hx => ?_, fun x x' hx hx' e => ?_, .inl h.f1, .inl h.f2, fun b e => .inl (h.f3 b e), fun b e => .inl (h.f4 b e), fun x hx => ?_⟩
  · by_cases e : x = t
    · subst e; simp [h1]
    · have hne : Value.int .i64 (x : Int) ≠ .int .i64 (t : Int) := fun he => e (by simp only [Value.int.injEq, true_and] at he; omega)
      simp [e, h2 _ hne, h.at_]
  · by_cases e : x = t
    · subst e
      simp only [if_true, Option.some.injEq] at hx ⊢
      subst hx
      exact hnew
    · simp only [if_neg e] at hx ⊢
      rw [hbl (LA x) (hla x a hx) (fun e2 => notMap_of_cells h.map (h.acc x a hx) e2)]
      exact h.acc x a hx
  · by_cases ex : x = t
    · by_cases ex' : x' = t
      · rw [ex, ex']
      · simp only [if_pos ex, if_neg ex'] at e hx'
        obtain ⟨a, ha'⟩ := Option.isSome_iff_exists.1 hx'
        have := hla x' a ha'
        omega
    · by_cases ex' : x' = t
      · simp only [if_neg ex, if_pos ex'] at e hx
        obtain ⟨a, ha'⟩ := Option.isSome_iff_exists.1 hx
        have := hla x a ha'
        omega
      · simp only [if_neg ex, if_neg ex'] at e hx hx'
        exact h.inj x x' hx hx' e
  · by_cases e : x = t
    · simp only [if_pos e]; exact .inr (Nat.le_refl _)
    · simp only [if_neg e] at hx ⊢; exact .inl (h.f5 x hx)

/-- One more among the accessors. -/
theorem ItemAt.appA {w w4 : World} {Fp : Nat → Prop} {li : Nat} {it : Itm} {W A : Value} {lm : Nat} {MB : Value → Option Value} {LA : Nat → Nat} (h : ItemAt w Fp li it W A lm MB LA) {t g cap : Nat} {o : Obj}
    (hown4 : w4.ownsRow 0 3 1 (.slice (some ⟨g, 0, none⟩) (it.ac.length + 1) cap) (it.ac.length + 1) (ints it.ac ++ [.int .i64 t])) (hg4 : (w.alloc o).grownBy w4 A.ownBlock) (hat4 : A.ownBlock = some g ∨ w.heap.size ≤ g) :
    ItemAt (w4.setCell ⟨li, 1, none⟩ (.slice (some ⟨g, 0, none⟩) (it.ac.length + 1) cap)) (fun b => Fp b ∨ w.heap.size ≤ b) li ⟨it.wr, it.ac ++ [t], it.acc⟩ W (.slice (some ⟨g, 0, none⟩) (it.ac.length + 1) cap) lm MB LA ∧
    ∀ b, b < w.heap.size → ¬ Fp b → (w4.setCell ⟨li, 1, none⟩ (.slice (some ⟨g, 0, none⟩) (it.ac.length + 1) cap)).heap[b]? = w.heap[b]? := by
  have hli := some_lt h.blk
  have hb4 : ∀ b, b < w.heap.size → some b ≠ A.ownBlock → w4.heap[b]? = w.heap[b]? := fun b hb hne => (hg4.block b (by simp; omega) hne).trans (Below.heap_alloc _ _ _ hb)
  have hb5 : ∀ b, b ≠ li → (w4.setCell ⟨li, 1, none⟩ (.slice (some ⟨g, 0, none⟩) (it.ac.length + 1) cap)).heap[b]? = w4.heap[b]? := fun b hne => Below.heap_setCell _ _ _ _ (by show b ≠ li; exact hne)
  have hbw : ∀ b, b < w.heap.size → b ≠ li → some b ≠ A.ownBlock → (w4.setCell ⟨li, 1, none⟩ (.slice (some ⟨g, 0, none⟩) (it.ac.length + 1) cap)).heap[b]? = w.heap[b]? := fun b hb h1 h2 => (hb5 b h1).trans (hb4 b hb h2)
  have hali : some li ≠ A.ownBlock := fun e => ownsRow_far h.ra (by decide) h.blk e.symm
  have hgli : g ≠ li := by
    rcases hat4 with e | e
    · exact fun e2 => hali (by rw [e, e2])
    · omega
  have hlm : lm ≠ li := fun e => notMap_of_cells h.map h.blk e.symm
  refine ⟨⟨?_, ownsRow_same h.rw_ (fun b e => ?_), ?_, fun b e e2 => ?_, h.map.of_block (hbw lm h.map.lt hlm (fun e => ownsRow_notMap h.ra h.map e.symm)), h.at_, fun x a hx => ?_, h.inj, .inl h.f1, .inl h.f2, fun b e => .inl (h.f3 b e), fun b e => ?_, fun x hx => .inl (h.f5 x hx)⟩, fun b hb hF => hbw b hb (fun e => hF (e ▸ h.f1)) (fun e => hF (h.f4 b e.symm))⟩
  · have h4 : w4.heap[li]? = some (.cells #[W, A, .map (some lm)] 76 (0, 0)) := (hb4 li hli hali).trans h.blk
    simp [World.setCell, Array.getElem?_modify, h4]
  · exact hbw b (h.rw_.lt b e).2 (fun e2 => ownsRow_far h.rw_ (by decide) h.blk (by rw [e, e2])) (fun e2 => h.apart b e e2.symm)
  · have ei : ints (it.ac ++ [t]) = ints it.ac ++ [.int .i64 t] := by simp [ints]
    have el : (it.ac ++ [t]).length = it.ac.length + 1 := by simp
    rw [ei, el]
    refine ownsRow_same hown4 (fun b e => hb5 b ?_)
    simp [Value.ownBlock] at e
    rw [← e]
    exact hgli
  · simp [Value.ownBlock] at e2
    subst e2
    rcases hat4 with e3 | e3
    · exact h.apart g e e3
    · have := (h.rw_.lt g e).2
      omega
  · rw [hbw (LA x) (some_lt (h.acc x a hx)) (fun e => ?_) (fun e => ownsRow_far h.ra (by decide) (h.acc x a hx) e.symm)]
    · exact h.acc x a hx
    · have := h.blk
      rw [← e, h.acc x a hx] at this
      simp at this
  · simp [Value.ownBlock] at e
    subst e
    rcases hat4 with e3 | e3
    · exact .inl (h.f4 g e3)
    · exact .inr e3

/-- One more among the writers. -/
theorem ItemAt.appW {w w4 : World} {Fp : Nat → Prop} {li : Nat} {it : Itm} {W A : Value} {lm : Nat} {MB : Value → Option Value} {LA : Nat → Nat} (h : ItemAt w Fp li it W A lm MB LA) {t g cap : Nat} {o : Obj}
    (hown4 : w4.ownsRow 0 3 1 (.slice (some ⟨g, 0, none⟩) (it.wr.length + 1) cap) (it.wr.length + 1) (ints it.wr ++ [.int .i64 t])) (hg4 : (w.alloc o).grownBy w4 W.ownBlock) (hat4 : W.ownBlock = some g ∨ w.heap.size ≤ g) :
    ItemAt (w4.setCell ⟨li, 0, none⟩ (.slice (some ⟨g, 0, none⟩) (it.wr.length + 1) cap)) (fun b => Fp b ∨ w.heap.size ≤ b) li ⟨it.wr ++ [t], it.ac, it.acc⟩ (.slice (some ⟨g, 0, none⟩) (it.wr.length + 1) cap) A lm MB LA ∧
    ∀ b, b < w.heap.size → ¬ Fp b → (w4.setCell ⟨li, 0, none⟩ (.slice (some ⟨g, 0, none⟩) (it.wr.length + 1) cap)).heap[b]? = w.heap[b]? := by
  have hli := some_lt h.blk
  have hb4 : ∀ b, b < w.heap.size → some b ≠ W.ownBlock → w4.heap[b]? = w.heap[b]? := fun b hb hne => (hg4.block b (by simp; omega) hne).trans (Below.heap_alloc _ _ _ hb)
  have hb5 : ∀ b, b ≠ li → (w4.setCell ⟨li, 0, none⟩ (.slice (some ⟨g, 0, none⟩) (it.wr.length + 1) cap)).heap[b]? = w4.heap[b]? := fun b hne => Below.heap_setCell _ _ _ _ (by show b ≠ li; exact hne)
  have hbw : ∀ b, b < w.heap.size → b ≠ li → some b ≠ W.ownBlock → (w4.setCell ⟨li, 0, none⟩ (.slice (some ⟨g, 0, none⟩) (it.wr.length + 1) cap)).heap[b]? = w.heap[b]? := fun b hb h1 h2 => (hb5 b h1).trans (hb4 b hb h2)
  have hali : some li ≠ W.ownBlock := fun e => ownsRow_far h.rw_ (by decide) h.blk e.symm
  have hgli : g ≠ li := by
    rcases hat4 with e | e
    · exact fun e2 => hali (by rw [e, e2])
    · omega
  have hlm : lm ≠ li := fun e => notMap_of_cells h.map h.blk e.symm
  refine ⟨⟨?_, ?_, ownsRow_same h.ra (fun b e => ?_), fun b e2 e => ?_, h.map.of_block (hbw lm h.map.lt hlm (fun e => ownsRow_notMap h.rw_ h.map e.symm)), h.at_, fun x a hx => ?_, h.inj, .inl h.f1, .inl h.f2, fun b e => ?_, fun b e => .inl (h.f4 b e), fun x hx => .inl (h.f5 x hx)⟩, fun b hb hF => hbw b hb (fun e => hF (e ▸ h.f1)) (fun e => hF (h.f3 b e.symm))⟩
  · have h4 : w4.heap[li]? = some (.cells #[W, A, .map (some lm)] 76 (0, 0)) := (hb4 li hli hali).trans h.blk
    simp [World.setCell, Array.getElem?_modify, h4]
  · have ei : ints (it.wr ++ [t]) = ints it.wr ++ [.int .i64 t] := by simp [ints]
    have el : (it.wr ++ [t]).length = it.wr.length + 1 := by simp
    rw [ei, el]
    refine ownsRow_same hown4 (fun b e => hb5 b ?_)
    simp [Value.ownBlock] at e
    rw [← e]
    exact hgli
  · exact hbw b (h.ra.lt b e).2 (fun e2 => ownsRow_far h.ra (by decide) h.blk (by rw [e, e2])) (fun e2 => h.apart b e2.symm e)
  · simp [Value.ownBlock] at e2
    subst e2
    rcases hat4 with e3 | e3
    · exact h.apart g e3 e
    · have := (h.ra.lt g e).2
      omega
  · rw [hbw (LA x) (some_lt (h.acc x a hx)) (fun e => ?_) (fun e => ownsRow_far h.rw_ (by decide) (h.acc x a hx) e.symm)]
    · exact h.acc x a hx
    · have := h.blk
      rw [← e, h.acc x a hx] at this
      simp at this
  · simp [Value.ownBlock] at e
    subst e
    rcases hat4 with e3 | e3
    · exact .inl (h.f3 g e3)
    · exact .inr e3

/-- All items. -/
structure ItemsAt (w : World) (mb : Nat) (Fs : ByteArray → Nat → Prop) (items : ByteArray → Option Itm) (M : Value → Option Value) (LI : ByteArray → Nat) : Prop where
  map : MapIs Try.prog 9 w mb M
  at_ : ∀ s, M (.string s) = (items s).map fun _ => .pointer (some ⟨LI s, 0, none⟩)
  item : ∀ s it, items s = some it → ItemRep w (Fs s) (LI s) it
  apart : ∀ s s' b, Fs s b → Fs s' b → s = s'
  low : ∀ s b, Fs s b → b < w.heap.size ∧ b ≠ mb

end Go.Proofs.Qxb6600445a
