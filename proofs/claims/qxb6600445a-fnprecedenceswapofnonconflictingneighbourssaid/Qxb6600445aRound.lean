import Derived.Test.Qxb6600445aPlaces
import Derived.Test.Qxb6600445aBounds
namespace Go.Proofs.Qxb6600445a
open Go.RowKit Go.Maps

theorem setItem_same {f : ByteArray → Option Itm} {s : ByteArray} {it : Itm} (h : f s = some it) : setItem f s it = f := by
  funext x
  unfold setItem
  by_cases e : x = s
  · rw [if_pos e, e, h]
  · rw [if_neg e]

theorem setItem_set (f : ByteArray → Option Itm) (s : ByteArray) (it it' : Itm) : setItem (setItem f s it) s it' = setItem f s it' := by
  funext x
  unfold setItem
  by_cases e : x = s
  · rw [if_pos e, if_pos e]
  · rw [if_neg e, if_neg e, if_neg e]

/-- In the midst of a round: the item s is at work. -/
def Mid (w : World) (Sf : Nat → Prop) (mb gb m : Nat) (items : ByteArray → Option Itm) (succ : Nat → List Nat) (s : ByteArray) (it : Itm) (li : Nat) (W A : Value) (lm : Nat) (MB : Value → Option Value) (LA : Nat → Nat) : Prop :=
  ∃ Fg Fs M LI, PR w Sf mb gb m (setItem items s it) succ Fg Fs M LI ∧ LI s = li ∧ ItemAt w (Fs s) li it W A lm MB LA

variable {w : World} {Sf : Nat → Prop} {mb gb m : Nat} {items : ByteArray → Option Itm} {succ : Nat → List Nat} {s : ByteArray} {it : Itm} {li : Nat} {W A : Value} {lm : Nat} {MB : Value → Option Value} {LA : Nat → Nat}

theorem Mid.at_ (h : Mid w Sf mb gb m items succ s it li W A lm MB LA) : ∃ Fp, ItemAt w Fp li it W A lm MB LA := by
  obtain ⟨Fg, Fs, M, LI, h1, h2, h3⟩ := h
  exact ⟨_, h3⟩

theorem Mid.done (h : Mid w Sf mb gb m items succ s it li W A lm MB LA) {Sf' : Nat → Prop} (hS : ∀ b, Sf' b → Sf b) : ∃ Fg Fs M LI, PR w Sf' mb gb m (setItem items s it) succ Fg Fs M LI := by
  obtain ⟨Fg, Fs, M, LI, h1, h2, h3⟩ := h
  exact ⟨Fg, Fs, M, LI, h1.same (Nat.le_refl _) (fun _ _ => rfl) (fun b hb => .inl (hS b hb))⟩

/-- The item was there. -/
theorem Mid.old {Fg : Nat → Prop} {Fs : ByteArray → Nat → Prop} {M : Value → Option Value} {LI : ByteArray → Nat} (h : PR w Sf mb gb m items succ Fg Fs M LI) (hit : items s = some it) :
    M (.string s) = some (.pointer (some ⟨LI s, 0, none⟩)) ∧ ∃ W A lm MB LA, Mid w Sf mb gb m items succ s it (LI s) W A lm MB LA := by
  obtain ⟨W, A, lm, MB, LA, hi⟩ := h.items.item s it hit
  refine ⟨by rw [h.items.at_, hit]; rfl, W, A, lm, MB, LA, Fg, Fs, M, LI, ?_, rfl, hi⟩
  rw [setItem_same hit]
  exact h

/-- The item is new. -/
theorem Mid.make {Fg : Nat → Prop} {Fs : ByteArray → Nat → Prop} {M : Value → Option Value} {LI : ByteArray → Nat} (h : PR w Sf mb gb m items succ Fg Fs M LI) (hit : items s = none) (hs : s.size ≤ 1048576) :
    M (.string s) = none ∧ ∃ w3, (Instr.mapUpdate 69 (.map (some mb)) (.string s) (.pointer (some ⟨w.heap.size + 1, 0, none⟩))).run Try.prog ((w.alloc (.map #[] 0)).alloc (.cells #[.slice none 0 0, .slice none 0 0, .map (some w.heap.size)] 76)) = .ok () w3 ∧
      Kp Sf w w3 ∧ ∃ W A lm MB LA, Mid w3 Sf mb gb m items succ s ⟨[], [], fun _ => none⟩ (w.heap.size + 1) W A lm MB LA := by
  have hb2 : ∀ b, b < w.heap.size → ((w.alloc (.map #[] 0)).alloc (.cells #[.slice none 0 0, .slice none 0 0, .map (some w.heap.size)] 76)).heap[b]? = w.heap[b]? := fun b hb => (Below.heap_alloc _ _ _ (by simp; omega)).trans (Below.heap_alloc _ _ _ hb)
  have hml := h.items.map.lt
  obtain ⟨w3, M3, e3, hm3, hg3, hs3, h1, h2⟩ := (h.items.map.of_block (hb2 mb hml)).put law9 Try.underlying69 (.pointer (some ⟨w.heap.size + 1, 0, none⟩)) (Go.WideMaps.keyOf_string_mk Try.underlying9 (s := s) (by unfold maxLen; omega))
  have hn := ItemAt.new w
  have hsz : ((w.alloc (.map #[] 0)).alloc (.cells #[.slice none 0 0, .slice none 0 0, .map (some w.heap.size)] 76)).heap.size = w.heap.size + 2 := by simp
  have hi3 : ItemAt w3 (fun b => w.heap.size ≤ b) (w.heap.size + 1) ⟨[], [], fun _ => none⟩ (.slice none 0 0) (.slice none 0 0) w.heap.size (fun _ => none) (fun _ => 0) :=
    hn.same (fun b hb hF => hg3.block b hb (by simp; omega)) (fun _ _ x => x)
  obtain ⟨Fs', LI', hpr, hkp, hli, hi⟩ := h.item_new (it' := ⟨[], [], fun _ => none⟩) (by omega) ⟨hg3.os, hg3.tape, hg3.output⟩ (fun b hb hne => (hg3.block b (by omega) (by simpa using hne)).trans (hb2 b hb)) hm3 h1 h2 hi3
  exact ⟨by rw [h.items.at_, hit]; rfl, w3, e3, hkp, _, _, _, _, _, Fg, Fs', M3, LI', hpr, hli, hi⟩

theorem Mid.step (h : Mid w Sf mb gb m items succ s it li W A lm MB LA) {w' : World} {it' : Itm} {W' A' : Value} {lm' : Nat} {MB' : Value → Option Value} {LA' : Nat → Nat}
    (hs : w.heap.size ≤ w'.heap.size) (hos : w'.os = w.os ∧ w'.tape = w.tape ∧ w'.output = w.output)
    (hn : ∀ Fp, ItemAt w Fp li it W A lm MB LA → ItemAt w' (fun b => Fp b ∨ w.heap.size ≤ b) li it' W' A' lm' MB' LA' ∧ ∀ b, b < w.heap.size → ¬ Fp b → w'.heap[b]? = w.heap[b]?) :
    Mid w' Sf mb gb m items succ s it' li W' A' lm' MB' LA' ∧ Kp Sf w w' := by
  obtain ⟨Fg, Fs, M, LI, h1, rfl, h3⟩ := h
  obtain ⟨hi', hb⟩ := hn _ h3
  obtain ⟨Fs', hpr, hkp, hi⟩ := h1.item_step (s := s) (it := it) (it' := it') (by simp [setItem]) ⟨hos.1, hos.2.1, hos.2.2, hs, hb⟩ hi'
  rw [setItem_set] at hpr
  exact ⟨⟨Fg, Fs', M, LI, hpr, rfl, hi⟩, hkp⟩

/-- The transaction's first access. -/
theorem Mid.addAcc (h : Mid w Sf mb gb m items succ s it li W A lm MB LA) {t : Nat} (ht : t ≤ 65536) (ha : it.acc t = none) :
    MB (.int .i64 t) = none ∧ ∃ w2, (Instr.mapUpdate 74 (.map (some lm)) (.int .i64 t) (.pointer (some ⟨w.heap.size, 0, none⟩))).run Try.prog (w.alloc (.cells #[.int .i64 0, .int .i64 0, .bool false] 80)) = .ok () w2 ∧ Kp Sf w w2 ∧ w2.heap.size = w.heap.size + 1 ∧
      ∃ MB' LA', Mid w2 Sf mb gb m items succ s ⟨it.wr, it.ac, fun x => if x = t then some ⟨0, 0, false⟩ else it.acc x⟩ li W A lm MB' LA' ∧ LA' t = w.heap.size := by
  obtain ⟨Fp, hi⟩ := h.at_
  have hml := hi.map.lt
  obtain ⟨w2, MB', e2, hm2, hg2, hs2, h1, h2⟩ := (hi.map.of_block (w' := w.alloc (.cells #[.int .i64 0, .int .i64 0, .bool false] 80)) (Below.heap_alloc _ _ _ hml)).put law3 Try.underlying74 (.pointer (some ⟨w.heap.size, 0, none⟩)) (x := .int .i64 t) (keyOf_int_mk Try.underlying3 (WalkArith.wf_i64 (by omega)))
  have hs2' : w2.heap.size = w.heap.size + 1 := by rw [hs2]; simp
  obtain ⟨hm, hk⟩ := h.step (w' := w2) (by omega) ⟨hg2.os, hg2.tape, hg2.output⟩ (fun Fp hi => ⟨hi.addAcc ha hm2 hg2 h1 h2, fun b hb hF => (hg2.block b (by simp; omega) (by simp; rintro rfl; exact hF hi.f2)).trans (Below.heap_alloc _ _ _ hb)⟩)
  exact ⟨by rw [hi.at_, ha]; rfl, w2, e2, hk, hs2', _, _, hm, by simp⟩

theorem Mid.appA (h : Mid w Sf mb gb m items succ s it li W A lm MB LA) {t g cap : Nat} {o : Obj} {w4 : World}
    (hown4 : w4.ownsRow 0 3 1 (.slice (some ⟨g, 0, none⟩) (it.ac.length + 1) cap) (it.ac.length + 1) (ints it.ac ++ [.int .i64 t])) (hg4 : (w.alloc o).grownBy w4 A.ownBlock) (hat4 : A.ownBlock = some g ∨ w.heap.size ≤ g) :
    Mid (w4.setCell ⟨li, 1, none⟩ (.slice (some ⟨g, 0, none⟩) (it.ac.length + 1) cap)) Sf mb gb m items succ s ⟨it.wr, it.ac ++ [t], it.acc⟩ li W (.slice (some ⟨g, 0, none⟩) (it.ac.length + 1) cap) lm MB LA ∧
    Kp Sf w (w4.setCell ⟨li, 1, none⟩ (.slice (some ⟨g, 0, none⟩) (it.ac.length + 1) cap)) := by
  have h1 : (w.alloc o).heap.size ≤ w4.heap.size := hg4.size
  simp at h1
  exact h.step (by simp [World.setCell]; omega) ⟨hg4.os, hg4.tape, hg4.output⟩ (fun Fp hi => hi.appA hown4 hg4 hat4)

theorem Mid.appW (h : Mid w Sf mb gb m items succ s it li W A lm MB LA) {t g cap : Nat} {o : Obj} {w4 : World}
    (hown4 : w4.ownsRow 0 3 1 (.slice (some ⟨g, 0, none⟩) (it.wr.length + 1) cap) (it.wr.length + 1) (ints it.wr ++ [.int .i64 t])) (hg4 : (w.alloc o).grownBy w4 W.ownBlock) (hat4 : W.ownBlock = some g ∨ w.heap.size ≤ g) :
    Mid (w4.setCell ⟨li, 0, none⟩ (.slice (some ⟨g, 0, none⟩) (it.wr.length + 1) cap)) Sf mb gb m items succ s ⟨it.wr ++ [t], it.ac, it.acc⟩ li (.slice (some ⟨g, 0, none⟩) (it.wr.length + 1) cap) A lm MB LA ∧
    Kp Sf w (w4.setCell ⟨li, 0, none⟩ (.slice (some ⟨g, 0, none⟩) (it.wr.length + 1) cap)) := by
  have h1 : (w.alloc o).heap.size ≤ w4.heap.size := hg4.size
  simp at h1
  exact h.step (by simp [World.setCell]; omega) ⟨hg4.os, hg4.tape, hg4.output⟩ (fun Fp hi => hi.appW hown4 hg4 hat4)

theorem Mid.setAcc (h : Mid w Sf mb gb m items succ s it li W A lm MB LA) {t j : Nat} {a a' : Acc} {v : Value} (ha : it.acc t = some a)
    (hv : (#[Value.int .i64 a.d0, .int .i64 a.d1, .bool a.wrote] : Array Value).setIfInBounds j v = #[.int .i64 a'.d0, .int .i64 a'.d1, .bool a'.wrote]) :
    Mid (w.setCell ⟨LA t, j, none⟩ v) Sf mb gb m items succ s (Go.Proofs.Qxb6600445a.setAcc it t a') li W A lm MB LA ∧ Kp Sf w (w.setCell ⟨LA t, j, none⟩ v) := by
  refine h.step (by simp [World.setCell]) ⟨rfl, rfl, rfl⟩ (fun Fp hi => ?_)
  have hb : ∀ b, b ≠ LA t → (w.setCell ⟨LA t, j, none⟩ v).heap[b]? = w.heap[b]? := fun b hne => Below.heap_setCell _ _ _ _ (by show b ≠ LA t; exact hne)
  refine ⟨(hi.setAcc ha (a' := a') ?_ hb).same (fun _ _ _ => rfl) (fun _ _ x => .inl x), fun b _ hF => hb b (fun e => hF (by rw [e]; exact hi.f5 t (by rw [ha]; rfl)))⟩
  have := hi.acc t a ha
  simp [World.setCell, Array.getElem?_modify, this, hv]

/-- An edge is laid. -/
theorem Mid.add (h : Mid w Sf mb gb m items succ s it li W A lm MB LA) (u v : Nat) (hm : m ≤ 65536) (hu : u < m) (hv : v < m) (hl : (succ u).length ≤ 65536) :
    Calls Try.prog 36 #[.pointer (some ⟨gb, 0, none⟩), .int .i64 u, .int .i64 v] w fun e w' => e = .returned (.tuple #[]) ∧ Mid w' Sf mb gb m items (addE succ u v) s it li W A lm MB LA ∧ Kp Sf w w' := by
  obtain ⟨Fg, Fs, M, LI, h1, h2, h3⟩ := h
  refine (add_any w Fg gb m succ u v h1.graph hm hu hv hl).mono ?_
  rintro e w' ⟨he, ht, hg⟩
  obtain ⟨⟨Fg', hpr⟩, hk⟩ := h1.graph_step ht hg
  exact ⟨he, ⟨Fg', Fs, M, LI, hpr, h2, h3.same (fun b hlt hF => ht.block b hlt (h1.gs s b hF)) (fun _ _ x => x)⟩, hk⟩

end Go.Proofs.Qxb6600445a
