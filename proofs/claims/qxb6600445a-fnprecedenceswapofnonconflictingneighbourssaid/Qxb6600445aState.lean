import Derived.Test.Qxb6600445aItems
namespace Go.Proofs.Qxb6600445a
open Go.RowKit Go.Maps

/-- The state between two steps: the graph, the items, and the safe blocks beside them. -/
structure PR (w : World) (Sf : Nat → Prop) (mb gb m : Nat) (items : ByteArray → Option Itm) (succ : Nat → List Nat) (Fg : Nat → Prop) (Fs : ByteArray → Nat → Prop) (M : Value → Option Value) (LI : ByteArray → Nat) : Prop where
  graph : GraphRep w Fg gb m succ
  items : ItemsAt w mb Fs items M LI
  glow : ∀ b, Fg b → b < w.heap.size ∧ b ≠ mb
  gs : ∀ s b, Fs s b → ¬ Fg b
  safe : ∀ b, Sf b → b < w.heap.size ∧ ¬ Fg b ∧ b ≠ mb ∧ ∀ s, ¬ Fs s b

/-- What a step keeps: the safe blocks, and the machine. -/
structure Kp (Sf : Nat → Prop) (w w' : World) : Prop where
  os : w'.os = w.os
  tape : w'.tape = w.tape
  output : w'.output = w.output
  size : w.heap.size ≤ w'.heap.size
  block : ∀ b, Sf b → w'.heap[b]? = w.heap[b]?

theorem Kp.refl (Sf : Nat → Prop) (w : World) : Kp Sf w w := ⟨rfl, rfl, rfl, Nat.le_refl _, fun _ _ => rfl⟩
theorem Kp.trans {Sf : Nat → Prop} {a b c : World} (h : Kp Sf a b) (h' : Kp Sf b c) : Kp Sf a c :=
  ⟨h'.os.trans h.os, h'.tape.trans h.tape, h'.output.trans h.output, Nat.le_trans h.size h'.size, fun x hx => (h'.block x hx).trans (h.block x hx)⟩

/-- Nothing of it has turned. -/
theorem PR.same {w w' : World} {Sf Sf' : Nat → Prop} {mb gb m : Nat} {items : ByteArray → Option Itm} {succ : Nat → List Nat} {Fg : Nat → Prop} {Fs : ByteArray → Nat → Prop} {M : Value → Option Value} {LI : ByteArray → Nat} (h : PR w Sf mb gb m items succ Fg Fs M LI)
    (hs : w.heap.size ≤ w'.heap.size) (hb : ∀ b, b < w.heap.size → w'.heap[b]? = w.heap[b]?) (hS : ∀ b, Sf' b → Sf b ∨ (w.heap.size ≤ b ∧ b < w'.heap.size)) : PR w' Sf' mb gb m items succ Fg Fs M LI := by
  have hm := h.items.map.lt
  refine ⟨h.graph.same (fun b hlt _ => hb b hlt) (fun _ x => x), ⟨h.items.map.of_block (hb mb hm), h.items.at_, fun s it e => ?_, h.items.apart, fun s b hF => ?_⟩, fun b hF => ?_, h.gs, fun b hF => ?_⟩
  · obtain ⟨W, A, lm, MB, LA, hi⟩ := h.items.item s it e
    exact ⟨W, A, lm, MB, LA, hi.same (fun b hlt _ => hb b hlt) (fun _ _ x => x)⟩
  · have := h.items.low s b hF
    exact ⟨by omega, this.2⟩
  · have := h.glow b hF
    exact ⟨by omega, this.2⟩
  · rcases hS b hF with hF | hF
    · have := h.safe b hF
      exact ⟨by omega, this.2⟩
    · refine ⟨hF.2, fun hg => ?_, by omega, fun s hfs => ?_⟩
      · have := (h.glow b hg).1; omega
      · have := (h.items.low s b hfs).1; omega

/-- The graph's step. -/
theorem PR.graph_step {w w' : World} {Sf : Nat → Prop} {mb gb m : Nat} {items : ByteArray → Option Itm} {succ succ' : Nat → List Nat} {Fg : Nat → Prop} {Fs : ByteArray → Nat → Prop} {M : Value → Option Value} {LI : ByteArray → Nat} (h : PR w Sf mb gb m items succ Fg Fs M LI)
    (ht : Turned Fg w w') (hg : GraphRep w' (fun b => Fg b ∨ w.heap.size ≤ b) gb m succ') : (∃ Fg', PR w' Sf mb gb m items succ' Fg' Fs M LI) ∧ Kp Sf w w' := by
  have hm := h.items.map.lt
  have hmb : ¬ Fg mb := fun e => (h.glow mb e).2 rfl
  have hs := ht.size
  obtain ⟨ob, eb, G, Mg, hgb, hrow, hown, hinj, hmap, hM, fg, fo, fe, fr⟩ := hg
  refine ⟨⟨fun b => (Fg b ∨ w.heap.size ≤ b) ∧ b < w'.heap.size, ⟨ob, eb, G, Mg, hgb, hrow, hown, hinj, hmap, hM, ⟨fg, some_lt hgb⟩, ⟨fo, hrow.lt⟩, ⟨fe, hmap.lt⟩, fun u b hu e => ⟨fr u b hu e, ((hown u hu).lt b e).2⟩⟩,
    ⟨h.items.map.of_block (ht.block mb hm hmb), h.items.at_, fun s it e => ?_, h.items.apart, fun s b hF => ?_⟩, fun b hF => ?_, fun s b hF hg => ?_, fun b hF => ?_⟩, ⟨ht.os, ht.tape, ht.output, ht.size, fun b hF => ht.block b (h.safe b hF).1 (h.safe b hF).2.1⟩⟩
  · obtain ⟨W, A, lm, MB, LA, hi⟩ := h.items.item s it e
    exact ⟨W, A, lm, MB, LA, hi.same (fun b hlt hF => ht.block b hlt (h.gs s b hF)) (fun _ _ x => x)⟩
  · have := h.items.low s b hF
    exact ⟨by omega, this.2⟩
  · refine ⟨hF.2, fun e => ?_⟩
    rcases hF.1 with hF | hF
    · exact (h.glow b hF).2 e
    · omega
  · rcases hg.1 with hg | hg
    · exact h.gs s b hF hg
    · have := (h.items.low s b hF).1; omega
  · have := h.safe b hF
    refine ⟨by omega, fun hg => ?_, this.2.2⟩
    rcases hg.1 with hg | hg
    · exact this.2.1 hg
    · omega

/-- An item's step. -/
theorem PR.item_step {w w' : World} {Sf : Nat → Prop} {mb gb m : Nat} {items : ByteArray → Option Itm} {succ : Nat → List Nat} {Fg : Nat → Prop} {Fs : ByteArray → Nat → Prop} {M : Value → Option Value} {LI : ByteArray → Nat} (h : PR w Sf mb gb m items succ Fg Fs M LI)
    {s : ByteArray} {it it' : Itm} (hit : items s = some it) (ht : Turned (Fs s) w w') {W A : Value} {lm : Nat} {MB : Value → Option Value} {LA : Nat → Nat} (hi : ItemAt w' (fun b => Fs s b ∨ w.heap.size ≤ b) (LI s) it' W A lm MB LA) :
    ∃ Fs', PR w' Sf mb gb m (setItem items s it') succ Fg Fs' M LI ∧ Kp Sf w w' ∧ ItemAt w' (Fs' s) (LI s) it' W A lm MB LA := by
  have hm := h.items.map.lt
  have hmb : ¬ Fs s mb := fun e => (h.items.low s mb e).2 rfl
  have hs := ht.size
  have hcut : ItemAt w' (fun b => Fs s b ∨ (s = s ∧ w.heap.size ≤ b ∧ b < w'.heap.size)) (LI s) it' W A lm MB LA := hi.same (fun _ _ _ => rfl) (fun b hlt hF => hF.imp id (fun h => ⟨rfl, h, hlt⟩))
  refine ⟨fun x b => Fs x b ∨ (x = s ∧ w.heap.size ≤ b ∧ b < w'.heap.size), ⟨h.graph.same (fun b hlt hF => ht.block b hlt (fun e => h.gs s b e hF)) (fun _ x => x),
    ⟨h.items.map.of_block (ht.block mb hm hmb), fun x => ?_, fun x i e => ?_, fun x x' b e e' => ?_, fun x b hF => ?_⟩, fun b hF => ?_, fun x b hF hg => ?_, fun b hF => ?_⟩, ⟨ht.os, ht.tape, ht.output, ht.size, fun b hF => ht.block b (h.safe b hF).1 ((h.safe b hF).2.2.2 s)⟩, hcut⟩
  · rw [h.items.at_]
    by_cases e : x = s
    · subst e; simp [setItem, hit]
    · simp [setItem, e]
  · by_cases ex : x = s
    · subst ex
      simp only [setItem, if_true, Option.some.injEq] at e
      subst e
      exact ⟨W, A, lm, MB, LA, hcut⟩
    · simp only [setItem, if_neg ex] at e
      obtain ⟨W', A', lm', MB', LA', hi'⟩ := h.items.item x i e
      exact ⟨W', A', lm', MB', LA', hi'.same (fun b hlt hF => ht.block b hlt (fun e2 => ex (h.items.apart x s b hF e2))) (fun _ _ y => .inl y)⟩
  · rcases e with e | ⟨e, e1, _⟩
    · rcases e' with e' | ⟨e', e1, _⟩
      · exact h.items.apart x x' b e e'
      · have := (h.items.low x b e).1; omega
    · rcases e' with e' | ⟨e', _, _⟩
      · have := (h.items.low x' b e').1; omega
      · rw [e, e']
  · rcases hF with hF | ⟨_, hF, hF'⟩
    · have := h.items.low x b hF
      exact ⟨by omega, this.2⟩
    · exact ⟨hF', by omega⟩
  · have := h.glow b hF
    exact ⟨by omega, this.2⟩
  · rcases hF with hF | ⟨_, hF, _⟩
    · exact h.gs x b hF hg
    · have := (h.glow b hg).1; omega
  · have := h.safe b hF
    refine ⟨by omega, this.2.1, this.2.2.1, fun x e => ?_⟩
    rcases e with e | ⟨_, e, _⟩
    · exact this.2.2.2 x e
    · omega

/-- A new item. -/
theorem PR.item_new {w w' : World} {Sf : Nat → Prop} {mb gb m : Nat} {items : ByteArray → Option Itm} {succ : Nat → List Nat} {Fg : Nat → Prop} {Fs : ByteArray → Nat → Prop} {M M' : Value → Option Value} {LI : ByteArray → Nat} (h : PR w Sf mb gb m items succ Fg Fs M LI)
    {s : ByteArray} {it' : Itm} {li : Nat} (hs : w.heap.size ≤ w'.heap.size) (hos : w'.os = w.os ∧ w'.tape = w.tape ∧ w'.output = w.output) (hb : ∀ b, b < w.heap.size → b ≠ mb → w'.heap[b]? = w.heap[b]?) (hm : MapIs Try.prog 9 w' mb M') (h1 : M' (.string s) = some (.pointer (some ⟨li, 0, none⟩))) (h2 : ∀ y, y ≠ .string s → M' y = M y)
    {W A : Value} {lm : Nat} {MB : Value → Option Value} {LA : Nat → Nat} (hi : ItemAt w' (fun b => w.heap.size ≤ b) li it' W A lm MB LA) :
    ∃ Fs' LI', PR w' Sf mb gb m (setItem items s it') succ Fg Fs' M' LI' ∧ Kp Sf w w' ∧ LI' s = li ∧ ItemAt w' (Fs' s) li it' W A lm MB LA := by
  have hml := h.items.map.lt
  have hcut : ItemAt w' (fun b => if s = s then w.heap.size ≤ b ∧ b < w'.heap.size else Fs s b) li it' W A lm MB LA := hi.same (fun _ _ _ => rfl) (fun b hlt hF => by rw [if_pos rfl]; exact ⟨hF, hlt⟩)
  refine ⟨fun x b => if x = s then w.heap.size ≤ b ∧ b < w'.heap.size else Fs x b, fun x => if x = s then li else LI x, ⟨h.graph.same (fun b hlt hF => hb b hlt (h.glow b hF).2) (fun _ x => x),
    ⟨hm, fun x => ?_, fun x i e => ?_, fun x x' b e e' => ?_, fun x b hF => ?_⟩, fun b hF => ?_, fun x b hF hg => ?_, fun b hF => ?_⟩, ⟨hos.1, hos.2.1, hos.2.2, hs, fun b hF => hb b (h.safe b hF).1 (h.safe b hF).2.2.1⟩, by simp, hcut⟩
  · by_cases e : x = s
    · subst e; simp [setItem, h1]
    · have hne : Value.string x ≠ .string s := fun he => e (by simpa using he)
      rw [h2 _ hne, h.items.at_]
      simp [setItem, e]
  · by_cases ex : x = s
    · subst ex
      simp only [setItem, if_true, Option.some.injEq] at e
      subst e
      simp only [if_true]
      exact ⟨W, A, lm, MB, LA, by simpa using hcut⟩
    · simp only [setItem, if_neg ex] at e
      simp only [if_neg ex]
      obtain ⟨W', A', lm', MB', LA', hi'⟩ := h.items.item x i e
      exact ⟨W', A', lm', MB', LA', hi'.same (fun b hlt hF => hb b hlt (h.items.low x b hF).2) (fun _ _ y => y)⟩
  · by_cases ex : x = s
    · by_cases ex' : x' = s
      · rw [ex, ex']
      · simp only [if_pos ex, if_neg ex'] at e e'
        have := (h.items.low x' b e').1; omega
    · by_cases ex' : x' = s
      · simp only [if_neg ex, if_pos ex'] at e e'
        have := (h.items.low x b e).1; omega
      · simp only [if_neg ex, if_neg ex'] at e e'
        exact h.items.apart x x' b e e'
  · by_cases ex : x = s
    · simp only [if_pos ex] at hF
      exact ⟨hF.2, by omega⟩
    · simp only [if_neg ex] at hF
      have := h.items.low x b hF
      exact ⟨by omega, this.2⟩
  · have := h.glow b hF
    exact ⟨by omega, this.2⟩
  · by_cases ex : x = s
    · simp only [if_pos ex] at hF
      have := (h.glow b hg).1; omega
    · simp only [if_neg ex] at hF
      exact h.gs x b hF hg
  · have := h.safe b hF
    refine ⟨by omega, this.2.1, this.2.2.1, fun x e => ?_⟩
    by_cases ex : x = s
    · simp only [if_pos ex] at e
      omega
    · simp only [if_neg ex] at e
      exact this.2.2.2 x e

end Go.Proofs.Qxb6600445a
