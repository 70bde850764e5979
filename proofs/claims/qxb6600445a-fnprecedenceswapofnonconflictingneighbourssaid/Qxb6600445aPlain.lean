namespace Go.Proofs.Qxb6600445a

/-- What a transaction keeps at an item. -/
structure Acc where
  d0 : Nat
  d1 : Nat
  wrote : Bool

/-- What an item keeps. -/
structure Itm where
  wr : List Nat
  ac : List Nat
  acc : Nat → Option Acc

/-- The state between two operations. -/
structure St where
  items : ByteArray → Option Itm
  succ : Nat → List Nat

/-- An operation: the transaction's place, is it a write, the item. -/
structure Opp where
  t : Nat
  wr : Bool
  s : ByteArray

/-- The edge u -> t is laid, once. -/
def addE (g : Nat → List Nat) (u t : Nat) : Nat → List Nat := if t ∈ g u then g else fun v => if v = u then g u ++ [t] else g v
/-- Edges from each of l but t to t. -/
def drawE (g : Nat → List Nat) (t : Nat) (l : List Nat) : Nat → List Nat := l.foldl (fun g u => if u = t then g else addE g u t) g

/-- The item, there from now on. -/
def itemOf (st : St) (s : ByteArray) : Itm := (st.items s).getD ⟨[], [], fun _ => none⟩
/-- .. with the transaction's access there. -/
def withAcc (it : Itm) (t : Nat) : Itm := if (it.acc t).isSome then it else ⟨it.wr, it.ac ++ [t], fun x => if x = t then some ⟨0, 0, false⟩ else it.acc x⟩
def accOf (it : Itm) (t : Nat) : Acc := (it.acc t).getD ⟨0, 0, false⟩
def fromOf (it : Itm) (wr : Bool) : List Nat := if wr then it.ac else it.wr
def drawnOf (a : Acc) (wr : Bool) : Nat := if wr then a.d1 else a.d0
def setDrawn (a : Acc) (wr : Bool) (n : Nat) : Acc := if wr then ⟨a.d0, n, a.wrote⟩ else ⟨n, a.d1, a.wrote⟩
def setAcc (it : Itm) (t : Nat) (a : Acc) : Itm := ⟨it.wr, it.ac, fun x => if x = t then some a else it.acc x⟩
def setWrote (it : Itm) (t : Nat) (a : Acc) : Itm := ⟨it.wr ++ [t], it.ac, fun x => if x = t then some ⟨a.d0, a.d1, true⟩ else it.acc x⟩
def setItem (f : ByteArray → Option Itm) (s : ByteArray) (it : Itm) : ByteArray → Option Itm := fun x => if x = s then some it else f x

/-- The item behind the operation. -/
def itemF (it0 : Itm) (o : Opp) : Itm :=
  let it := withAcc it0 o.t
  let a := setDrawn (accOf it o.t) o.wr (fromOf it o.wr).length
  if o.wr && !a.wrote then setWrote it o.t a else setAcc it o.t a

def stepF (st : St) (o : Opp) : St :=
  let it := withAcc (itemOf st o.s) o.t
  ⟨setItem st.items o.s (itemF (itemOf st o.s) o), drawE st.succ o.t ((fromOf it o.wr).drop (drawnOf (accOf it o.t) o.wr))⟩

def runF (ops : Nat → Opp) : Nat → St
  | 0 => ⟨fun _ => none, fun _ => []⟩
  | k + 1 => stepF (runF ops k) (ops k)

/-- Two operations conflict, the first of u, the second of v. -/
def Conf (a b : Opp) (u v : Nat) : Prop := a.t = u ∧ b.t = v ∧ u ≠ v ∧ a.s = b.s ∧ (a.wr = true ∨ b.wr = true)
/-- The conflict graph of the first n operations. -/
def Edge (ops : Nat → Opp) (n u v : Nat) : Prop := ∃ i j, i < j ∧ j < n ∧ Conf (ops i) (ops j) u v

theorem mem_addE (g : Nat → List Nat) (u t x y : Nat) : y ∈ addE g u t x ↔ y ∈ g x ∨ (x = u ∧ y = t) := by
  unfold addE
  split
  · rename_i h
    constructor
    · exact .inl
    · rintro (h1 | ⟨rfl, rfl⟩)
      · exact h1
      · exact h
  · by_cases e : x = u
    · subst e; simp
    · simp [e]

theorem mem_drawE (t x y : Nat) : ∀ (l : List Nat) (g : Nat → List Nat), y ∈ drawE g t l x ↔ y ∈ g x ∨ (y = t ∧ x ∈ l ∧ x ≠ t) := by
  intro l
  induction l with
  | nil => intro g; simp [drawE]
  | cons u l ih =>
    intro g
    have e : drawE g t (u :: l) = drawE (if u = t then g else addE g u t) t l := rfl
    rw [e, ih]
    by_cases hu : u = t
    · subst hu
      rw [if_pos rfl]
      constructor
      · rintro (h | ⟨h1, h2, h3⟩)
        · exact .inl h
        · exact .inr ⟨h1, List.mem_cons_of_mem _ h2, h3⟩
      · rintro (h | ⟨h1, h2, h3⟩)
        · exact .inl h
        · rcases List.mem_cons.1 h2 with h4 | h4
          · exact absurd h4 h3
          · exact .inr ⟨h1, h4, h3⟩
    · rw [if_neg hu, mem_addE]
      constructor
      · rintro ((h | ⟨h1, h2⟩) | ⟨h1, h2, h3⟩)
        · exact .inl h
        · exact .inr ⟨h2, by rw [h1]; exact List.mem_cons_self, by rw [h1]; exact hu⟩
        · exact .inr ⟨h1, List.mem_cons_of_mem _ h2, h3⟩
      · rintro (h | ⟨h1, h2, h3⟩)
        · exact .inl (.inl h)
        · rcases List.mem_cons.1 h2 with h4 | h4
          · exact .inl (.inr ⟨h4, h1⟩)
          · exact .inr ⟨h1, h4, h3⟩

/-- At most one more at each node. -/
theorem len_drawE (t x : Nat) : ∀ (l : List Nat) (g : Nat → List Nat), drawE g t l x = g x ∨ drawE g t l x = g x ++ [t] := by
  intro l
  induction l with
  | nil => intro g; exact .inl rfl
  | cons u l ih =>
    intro g
    have e : drawE g t (u :: l) = drawE (if u = t then g else addE g u t) t l := rfl
    rw [e]
    by_cases hu : u = t
    · rw [if_pos hu]; exact ih g
    · rw [if_neg hu]
      by_cases ht : t ∈ g u
      · have : addE g u t = g := by unfold addE; rw [if_pos ht]
        rw [this]; exact ih g
      · by_cases hx : x = u
        · subst hx
          have hxx : addE g x t x = g x ++ [t] := by unfold addE; rw [if_neg ht, if_pos rfl]
          rcases ih (addE g x t) with h | h
          · right; rw [h, hxx]
          · right
            have hm : ∀ (l : List Nat) (g : Nat → List Nat), t ∈ g x → drawE g t l x = g x := by
              intro l
              induction l with
              | nil => intro g _; rfl
              | cons u l ih2 =>
                intro g hg
                have e : drawE g t (u :: l) = drawE (if u = t then g else addE g u t) t l := rfl
                rw [e]
                by_cases hu : u = t
                · rw [if_pos hu]; exact ih2 g hg
                · rw [if_neg hu, ih2 _ ((mem_addE g u t x t).2 (.inl hg))]
                  unfold addE
                  by_cases h1 : t ∈ g u
                  · rw [if_pos h1]
                  · rw [if_neg h1]
                    by_cases h2 : x = u
                    · subst h2; exact absurd hg h1
                    · simp only [if_neg h2]
            rw [hm l _ (by rw [hxx]; simp), hxx]
        · have hxx : addE g u t x = g x := by unfold addE; rw [if_neg ht]; simp only [if_neg hx]
          rcases ih (addE g u t) with h | h
          · left; rw [h, hxx]
          · right; rw [h, hxx]

/-- What an item knows behind k operations. -/
structure ItemOk (ops : Nat → Opp) (k : Nat) (succ : Nat → List Nat) (s : ByteArray) (it : Itm) : Prop where
  ac : ∀ t, t ∈ it.ac ↔ ∃ i, i < k ∧ (ops i).s = s ∧ (ops i).t = t
  wr : ∀ t, t ∈ it.wr ↔ ∃ i, i < k ∧ (ops i).s = s ∧ (ops i).t = t ∧ (ops i).wr = true
  there : ∀ t, (it.acc t).isSome = true ↔ t ∈ it.ac
  wrote : ∀ t a, it.acc t = some a → (a.wrote = true ↔ t ∈ it.wr)
  l0 : ∀ t a, it.acc t = some a → a.d0 ≤ it.wr.length
  l1 : ∀ t a, it.acc t = some a → a.d1 ≤ it.ac.length
  d0 : ∀ t a, it.acc t = some a → ∀ u, u ∈ it.wr.take a.d0 → u ≠ t → t ∈ succ u
  d1 : ∀ t a, it.acc t = some a → ∀ u, u ∈ it.ac.take a.d1 → u ≠ t → t ∈ succ u

structure StOk (ops : Nat → Opp) (k : Nat) (st : St) : Prop where
  edge : ∀ u v, v ∈ st.succ u ↔ Edge ops k u v
  item : ∀ s it, st.items s = some it → ItemOk ops k st.succ s it
  nowhere : ∀ s, st.items s = none → ∀ i, i < k → (ops i).s ≠ s

theorem lt_succ_or {i k : Nat} (h : i < k + 1) : i < k ∨ i = k := by omega

/-- The item an operation finds, or makes. -/
theorem itemOf_ok {ops : Nat → Opp} {k : Nat} {st : St} (h : StOk ops k st) (s : ByteArray) : ItemOk ops k st.succ s (itemOf st s) := by
  unfold itemOf
  cases e : st.items s with
  | some it => exact h.item s it e
  | none =>
    have hn := h.nowhere s e
    refine ⟨fun t => ?_, fun t => ?_, fun t => by simp, fun t a ha => by simp at ha, fun t a ha => by simp at ha, fun t a ha => by simp at ha, fun t a ha => by simp at ha, fun t a ha => by simp at ha⟩
    · constructor
      · intro h1; cases h1
      · rintro ⟨i, hi, hs, _⟩; exact absurd hs (hn i hi)
    · constructor
      · intro h1; cases h1
      · rintro ⟨i, hi, hs, _⟩; exact absurd hs (hn i hi)

/-- The edges behind the operation. -/
theorem step_mem {ops : Nat → Opp} {k : Nat} {st : St} (h : StOk ops k st) (x y : Nat) :
    y ∈ (stepF st (ops k)).succ x ↔ y ∈ st.succ x ∨ (y = (ops k).t ∧ x ≠ (ops k).t ∧ x ∈ fromOf (itemOf st (ops k).s) (ops k).wr) := by
  have h0 := itemOf_ok h (ops k).s
  generalize hit : itemOf st (ops k).s = it at h0
  generalize ho : ops k = o at *
  show y ∈ drawE st.succ o.t ((fromOf (withAcc (itemOf st o.s) o.t) o.wr).drop (drawnOf (accOf (withAcc (itemOf st o.s) o.t) o.t) o.wr)) x ↔ _
  rw [hit, mem_drawE]
  by_cases hs : (it.acc o.t).isSome = true
  · obtain ⟨a, ha⟩ := Option.isSome_iff_exists.1 hs
    have e1 : withAcc it o.t = it := by unfold withAcc; rw [if_pos hs]
    have e2 : accOf it o.t = a := by unfold accOf; rw [ha]; rfl
    rw [e1, e2]
    constructor
    · rintro (h1 | ⟨h1, h2, h3⟩)
      · exact .inl h1
      · exact .inr ⟨h1, h3, List.mem_of_mem_drop h2⟩
    · rintro (h1 | ⟨h1, h2, h3⟩)
      · exact .inl h1
      · rw [← List.take_append_drop (drawnOf a o.wr) (fromOf it o.wr), List.mem_append] at h3
        rcases h3 with h3 | h3
        · left
          rw [h1]
          unfold fromOf drawnOf at h3
          cases hw : o.wr with
          | true => rw [hw] at h3; exact h0.d1 o.t a ha x h3 h2
          | false => rw [hw] at h3; exact h0.d0 o.t a ha x h3 h2
        · exact .inr ⟨h1, h3, h2⟩
  · have e1 : withAcc it o.t = ⟨it.wr, it.ac ++ [o.t], fun x => if x = o.t then some ⟨0, 0, false⟩ else it.acc x⟩ := by unfold withAcc; rw [if_neg hs]
    have e2 : accOf (withAcc it o.t) o.t = ⟨0, 0, false⟩ := by rw [e1]; unfold accOf; simp
    have e3 : drawnOf (⟨0, 0, false⟩ : Acc) o.wr = 0 := by unfold drawnOf; cases o.wr <;> rfl
    rw [e2, e3, List.drop_zero, e1]
    unfold fromOf
    cases hw : o.wr with
    | true =>
      simp only [if_true, List.mem_append, List.mem_singleton]
      constructor
      · rintro (h1 | ⟨h1, h2 | h2, h3⟩)
        · exact .inl h1
        · exact .inr ⟨h1, h3, h2⟩
        · exact absurd h2 h3
      · rintro (h1 | ⟨h1, h2, h3⟩)
        · exact .inl h1
        · exact .inr ⟨h1, .inl h3, h2⟩
    | false =>
      simp only [Bool.false_eq_true, if_false]
      constructor
      · rintro (h1 | ⟨h1, h2, h3⟩)
        · exact .inl h1
        · exact .inr ⟨h1, h3, h2⟩
      · rintro (h1 | ⟨h1, h2, h3⟩)
        · exact .inl h1
        · exact .inr ⟨h1, h3, h2⟩

theorem edge_succ (ops : Nat → Opp) (k u v : Nat) : Edge ops (k + 1) u v ↔ Edge ops k u v ∨ ∃ i, i < k ∧ Conf (ops i) (ops k) u v := by
  constructor
  · rintro ⟨i, j, hij, hj, hc⟩
    rcases lt_succ_or hj with h | rfl
    · exact .inl ⟨i, j, hij, h, hc⟩
    · exact .inr ⟨i, hij, hc⟩
  · rintro (⟨i, j, hij, hj, hc⟩ | ⟨i, hi, hc⟩)
    · exact ⟨i, j, hij, by omega, hc⟩
    · exact ⟨i, k, hi, by omega, hc⟩

theorem step_edge {ops : Nat → Opp} {k : Nat} {st : St} (h : StOk ops k st) (u v : Nat) : v ∈ (stepF st (ops k)).succ u ↔ Edge ops (k + 1) u v := by
  have h0 := itemOf_ok h (ops k).s
  rw [step_mem h, edge_succ, h.edge]
  have hh : (v = (ops k).t ∧ u ≠ (ops k).t ∧ u ∈ fromOf (itemOf st (ops k).s) (ops k).wr) ↔ ∃ i, i < k ∧ Conf (ops i) (ops k) u v := by
    unfold fromOf Conf
    cases hw : (ops k).wr with
    | true =>
      simp only [if_true]
      rw [h0.ac]
      constructor
      · rintro ⟨rfl, h2, i, hi, h3, h4⟩
        exact ⟨i, hi, h4, rfl, h2, h3, .inr trivial⟩
      · rintro ⟨i, hi, h4, rfl, h2, h3, _⟩
        exact ⟨rfl, h2, i, hi, h3, h4⟩
    | false =>
      simp only [Bool.false_eq_true, if_false]
      rw [h0.wr]
      constructor
      · rintro ⟨rfl, h2, i, hi, h3, h4, h5⟩
        exact ⟨i, hi, h4, rfl, h2, h3, .inl h5⟩
      · rintro ⟨i, hi, h4, rfl, h2, h3, h5 | h5⟩
        · exact ⟨rfl, h2, i, hi, h3, h4, h5⟩
        · cases h5
  rw [hh]

/-- The item with the access there: whose ac is one longer where it was not. -/
theorem withAcc_ac (it : Itm) (t x : Nat) (hs : ∀ t, (it.acc t).isSome = true ↔ t ∈ it.ac) : x ∈ (withAcc it t).ac ↔ x ∈ it.ac ∨ x = t := by
  unfold withAcc
  by_cases h : (it.acc t).isSome = true
  · rw [if_pos h]
    constructor
    · exact .inl
    · rintro (h1 | rfl)
      · exact h1
      · exact (hs _).1 h
  · rw [if_neg h]; simp

theorem withAcc_wr (it : Itm) (t : Nat) : (withAcc it t).wr = it.wr := by
  unfold withAcc
  split <;> rfl

theorem withAcc_acc (it : Itm) (t : Nat) : (withAcc it t).acc t = some (accOf (withAcc it t) t) := by
  unfold withAcc
  by_cases h : (it.acc t).isSome = true
  · rw [if_pos h]
    obtain ⟨a, ha⟩ := Option.isSome_iff_exists.1 h
    unfold accOf
    rw [ha]; rfl
  · rw [if_neg h]
    simp [accOf]

theorem withAcc_other (it : Itm) (t x : Nat) (h : x ≠ t) : (withAcc it t).acc x = it.acc x := by
  unfold withAcc
  split
  · rfl
  · simp [h]

/-- The access the operation finds, or makes. -/
theorem accOf_old (it : Itm) (t : Nat) : it.acc t = some (accOf (withAcc it t) t) ∨ (it.acc t = none ∧ accOf (withAcc it t) t = ⟨0, 0, false⟩) := by
  cases h : it.acc t with
  | some a =>
    left
    have e1 : withAcc it t = it := by unfold withAcc; rw [h]; rfl
    rw [e1]; unfold accOf; rw [h]; rfl
  | none =>
    right
    refine ⟨rfl, ?_⟩
    have e1 : withAcc it t = ⟨it.wr, it.ac ++ [t], fun x => if x = t then some ⟨0, 0, false⟩ else it.acc x⟩ := by unfold withAcc; rw [h]; rfl
    rw [e1]; simp [accOf]

/-- What itemF leaves, part by part. -/
theorem itemF_ac (it : Itm) (o : Opp) : (itemF it o).ac = (withAcc it o.t).ac := by
  unfold itemF
  simp only
  split <;> rfl
theorem itemF_wr (it : Itm) (o : Opp) : (itemF it o).wr = if (o.wr && !(accOf (withAcc it o.t) o.t).wrote) = true then it.wr ++ [o.t] else it.wr := by
  have e : (setDrawn (accOf (withAcc it o.t) o.t) o.wr (fromOf (withAcc it o.t) o.wr).length).wrote = (accOf (withAcc it o.t) o.t).wrote := by unfold setDrawn; split <;> rfl
  unfold itemF
  simp only [e]
  split
  · simp only [setWrote, withAcc_wr]
  · simp only [setAcc, withAcc_wr]
theorem itemF_other (it : Itm) (o : Opp) (x : Nat) (h : x ≠ o.t) : (itemF it o).acc x = it.acc x := by
  unfold itemF
  simp only
  split
  · simp [setWrote, h, withAcc_other it o.t x h]
  · simp [setAcc, h, withAcc_other it o.t x h]
theorem itemF_own (it : Itm) (o : Opp) : ∃ a, (itemF it o).acc o.t = some a ∧ a.wrote = ((accOf (withAcc it o.t) o.t).wrote || o.wr) ∧
    a.d0 = (if o.wr then (accOf (withAcc it o.t) o.t).d0 else it.wr.length) ∧ a.d1 = (if o.wr then (withAcc it o.t).ac.length else (accOf (withAcc it o.t) o.t).d1) := by
  generalize hb : accOf (withAcc it o.t) o.t = b
  unfold itemF
  simp only [hb]
  cases hw : o.wr with
  | true =>
    cases hb2 : b.wrote with
    | true => exact ⟨⟨b.d0, (withAcc it o.t).ac.length, true⟩, by simp [setDrawn, setAcc, hb2, fromOf], by simp, by simp, by simp⟩
    | false => exact ⟨⟨b.d0, (withAcc it o.t).ac.length, true⟩, by simp [setDrawn, setWrote, hb2, fromOf], by simp, by simp, by simp⟩
  | false => exact ⟨⟨it.wr.length, b.d1, b.wrote⟩, by simp [setDrawn, setAcc, fromOf, withAcc_wr], by simp, by simp, by simp⟩

/-- The item behind the operation knows what it must. -/
theorem itemF_ok {ops : Nat → Opp} {k : Nat} {st : St} (h : StOk ops k st) : ItemOk ops (k + 1) (stepF st (ops k)).succ (ops k).s (itemF (itemOf st (ops k).s) (ops k)) := by
  have h0 := itemOf_ok h (ops k).s
  have hmem := step_mem h
  generalize hg : (stepF st (ops k)).succ = g at hmem
  clear hg
  generalize hit : itemOf st (ops k).s = it at h0 hmem
  have hac : ∀ t, t ∈ (itemF it (ops k)).ac ↔ t ∈ it.ac ∨ t = (ops k).t := fun t => by rw [itemF_ac, withAcc_ac it _ t h0.there]
  have hwrote : (accOf (withAcc it (ops k).t) (ops k).t).wrote = true → (ops k).t ∈ it.wr := fun hw => by
    rcases accOf_old it (ops k).t with h1 | ⟨_, h1⟩
    · exact (h0.wrote _ _ h1).1 hw
    · rw [h1] at hw; cases hw
  have hwr : ∀ t, t ∈ (itemF it (ops k)).wr ↔ t ∈ it.wr ∨ (t = (ops k).t ∧ (ops k).wr = true) := fun t => by
    rw [itemF_wr]
    cases hw : (ops k).wr with
    | false => simp
    | true =>
      cases hb : (accOf (withAcc it (ops k).t) (ops k).t).wrote with
      | false => simp
      | true =>
        simp only [Bool.not_true, Bool.and_false, Bool.false_eq_true, if_false, and_true]
        constructor
        · exact .inl
        · rintro (h1 | rfl)
          · exact h1
          · exact hwrote hb
  have hmono : ∀ x y, y ∈ st.succ x → y ∈ g x := fun x y hy => (hmem x y).2 (.inl hy)
  have hwl : it.wr <+: (itemF it (ops k)).wr := by
    rw [itemF_wr]
    split
    · exact List.prefix_append _ _
    · exact List.prefix_refl _
  have hal : it.ac <+: (itemF it (ops k)).ac := by
    rw [itemF_ac]
    unfold withAcc
    split
    · exact List.prefix_refl _
    · exact List.prefix_append _ _
  have htake : ∀ {l l' : List Nat} {d : Nat}, l <+: l' → d ≤ l.length → l'.take d = l.take d := by
    rintro l _ d ⟨r, rfl⟩ hd
    rw [List.take_append_of_le_length hd]
  refine ⟨fun t => ?_, fun t => ?_, fun t => ?_, fun t a ha => ?_, fun t a ha => ?_, fun t a ha => ?_, fun t a ha u hu hne => ?_, fun t a ha u hu hne => ?_⟩
  · rw [hac, h0.ac]
    constructor
    · rintro (⟨i, hi, hh⟩ | rfl)
      · exact ⟨i, by omega, hh⟩
      · exact ⟨k, by omega, rfl, rfl⟩
    · rintro ⟨i, hi, h1, h2⟩
      rcases lt_succ_or hi with hi | rfl
      · exact .inl ⟨i, hi, h1, h2⟩
      · exact .inr h2.symm
  · rw [hwr, h0.wr]
    constructor
    · rintro (⟨i, hi, hh⟩ | ⟨rfl, h2⟩)
      · exact ⟨i, by omega, hh⟩
      · exact ⟨k, by omega, rfl, rfl, h2⟩
    · rintro ⟨i, hi, h1, h2, h3⟩
      rcases lt_succ_or hi with hi | rfl
      · exact .inl ⟨i, hi, h1, h2, h3⟩
      · exact .inr ⟨h2.symm, h3⟩
  · rw [hac]
    by_cases e : t = (ops k).t
    · subst e
      obtain ⟨a, ha, _⟩ := itemF_own it (ops k)
      rw [ha]; simp
    · rw [itemF_other it (ops k) t e, h0.there]
      simp [e]
  · rw [hwr]
    by_cases e : t = (ops k).t
    · subst e
      obtain ⟨b, hb, hbw, _⟩ := itemF_own it (ops k)
      rw [hb] at ha
      cases ha
      rw [hbw]
      rcases accOf_old it (ops k).t with h1 | ⟨h1, h2⟩
      · have := h0.wrote _ _ h1
        rw [Bool.or_eq_true, this]
        simp
      · have hn : ¬ (ops k).t ∈ it.wr := fun hh => by
          obtain ⟨i, hi, x1, x2, _⟩ := (h0.wr _).1 hh
          have : (ops k).t ∈ it.ac := (h0.ac _).2 ⟨i, hi, x1, x2⟩
          have := (h0.there _).2 this
          rw [h1] at this
          cases this
        rw [h2]
        simp [hn]
    · rw [itemF_other it (ops k) t e] at ha
      rw [h0.wrote t a ha]
      simp [e]
  · by_cases e : t = (ops k).t
    · subst e
      obtain ⟨b, hb, _, hd0, _⟩ := itemF_own it (ops k)
      rw [hb] at ha
      cases ha
      rw [hd0]
      split
      · rcases accOf_old it (ops k).t with h1 | ⟨_, h2⟩
        · exact Nat.le_trans (h0.l0 _ _ h1) hwl.length_le
        · rw [h2]; exact Nat.zero_le _
      · exact hwl.length_le
    · rw [itemF_other it (ops k) t e] at ha
      exact Nat.le_trans (h0.l0 t a ha) hwl.length_le
  · by_cases e : t = (ops k).t
    · subst e
      obtain ⟨b, hb, _, _, hd1⟩ := itemF_own it (ops k)
      rw [hb] at ha
      cases ha
      rw [hd1]
      split
      · rw [itemF_ac]; exact Nat.le_refl _
      · rcases accOf_old it (ops k).t with h1 | ⟨_, h2⟩
        · exact Nat.le_trans (h0.l1 _ _ h1) hal.length_le
        · rw [h2]; exact Nat.zero_le _
    · rw [itemF_other it (ops k) t e] at ha
      exact Nat.le_trans (h0.l1 t a ha) hal.length_le
  · by_cases e : t = (ops k).t
    · subst e
      obtain ⟨b, hb, _, hd0, _⟩ := itemF_own it (ops k)
      rw [hb] at ha
      cases ha
      cases hw : (ops k).wr with
      | true =>
        rw [hw] at hd0
        simp only [if_true] at hd0
        rcases accOf_old it (ops k).t with h1 | ⟨_, h2⟩
        · refine hmono _ _ (h0.d0 _ _ h1 u ?_ hne)
          rw [hd0, htake hwl (h0.l0 _ _ h1)] at hu
          exact hu
        · rw [hd0, h2] at hu
          simp at hu
      | false =>
        rw [hw] at hd0
        simp only [Bool.false_eq_true, if_false] at hd0
        have hu2 : u ∈ it.wr := by
          rw [hd0, htake hwl (Nat.le_refl _), List.take_length] at hu
          exact hu
        refine (hmem u _).2 (.inr ⟨rfl, hne, ?_⟩)
        rw [hw]
        exact hu2
    · rw [itemF_other it (ops k) t e] at ha
      refine hmono _ _ (h0.d0 t a ha u ?_ hne)
      rw [htake hwl (h0.l0 t a ha)] at hu
      exact hu
  · by_cases e : t = (ops k).t
    · subst e
      obtain ⟨b, hb, _, _, hd1⟩ := itemF_own it (ops k)
      rw [hb] at ha
      cases ha
      cases hw : (ops k).wr with
      | true =>
        have hu2 : u ∈ it.ac := by
          rcases (hac u).1 (List.mem_of_mem_take hu) with h1 | h1
          · exact h1
          · exact absurd h1 hne
        refine (hmem u _).2 (.inr ⟨rfl, hne, ?_⟩)
        rw [hw]
        exact hu2
      | false =>
        rw [hw] at hd1
        simp only [Bool.false_eq_true, if_false] at hd1
        rcases accOf_old it (ops k).t with h1 | ⟨_, h2⟩
        · refine hmono _ _ (h0.d1 _ _ h1 u ?_ hne)
          rw [hd1, htake hal (h0.l1 _ _ h1)] at hu
          exact hu
        · rw [hd1, h2] at hu
          simp at hu
    · rw [itemF_other it (ops k) t e] at ha
      refine hmono _ _ (h0.d1 t a ha u ?_ hne)
      rw [htake hal (h0.l1 t a ha)] at hu
      exact hu

theorem step_ok {ops : Nat → Opp} {k : Nat} {st : St} (h : StOk ops k st) : StOk ops (k + 1) (stepF st (ops k)) := by
  refine ⟨step_edge h, fun s it hs => ?_, fun s hs i hi => ?_⟩
  · have hs' : setItem st.items (ops k).s (itemF (itemOf st (ops k).s) (ops k)) s = some it := hs
    unfold setItem at hs'
    by_cases e : s = (ops k).s
    · rw [if_pos e] at hs'
      cases hs'
      rw [e]
      exact itemF_ok h
    · rw [if_neg e] at hs'
      have h0 := h.item s it hs'
      have hmono : ∀ x y, y ∈ st.succ x → y ∈ (stepF st (ops k)).succ x := fun x y hy => (step_mem h x y).2 (.inl hy)
      refine ⟨fun t => ?_, fun t => ?_, h0.there, h0.wrote, h0.l0, h0.l1, fun t a ha u hu hne => hmono _ _ (h0.d0 t a ha u hu hne), fun t a ha u hu hne => hmono _ _ (h0.d1 t a ha u hu hne)⟩
      · rw [h0.ac]
        constructor
        · rintro ⟨i, hi, hh⟩; exact ⟨i, by omega, hh⟩
        · rintro ⟨i, hi, h1, h2⟩
          rcases lt_succ_or hi with hi | rfl
          · exact ⟨i, hi, h1, h2⟩
          · exact absurd h1.symm e
      · rw [h0.wr]
        constructor
        · rintro ⟨i, hi, hh⟩; exact ⟨i, by omega, hh⟩
        · rintro ⟨i, hi, h1, h2⟩
          rcases lt_succ_or hi with hi | rfl
          · exact ⟨i, hi, h1, h2⟩
          · exact absurd h1.symm e
  · have hs' : setItem st.items (ops k).s (itemF (itemOf st (ops k).s) (ops k)) s = none := hs
    unfold setItem at hs'
    by_cases e : s = (ops k).s
    · rw [if_pos e] at hs'; cases hs'
    · rw [if_neg e] at hs'
      rcases lt_succ_or hi with hi | rfl
      · exact h.nowhere s hs' i hi
      · exact fun h1 => e h1.symm

/-- The precedence graph is the conflict graph. -/
theorem run_ok (ops : Nat → Opp) : ∀ k, StOk ops k (runF ops k) := by
  intro k
  induction k with
  | zero =>
    refine ⟨fun u v => ?_, fun s it hs => (by cases hs), fun s _ i hi => by omega⟩
    constructor
    · intro h; cases h
    · rintro ⟨i, j, _, hj, _⟩; omega
  | succ k ih => exact step_ok ih

/-- Places k and k + 1 changed over. -/
def swp (ops : Nat → Opp) (k : Nat) : Nat → Opp := fun i => if i = k then ops (k + 1) else if i = k + 1 then ops k else ops i

theorem swp_swp (ops : Nat → Opp) (k : Nat) : swp (swp ops k) k = ops := by
  funext i
  unfold swp
  by_cases h1 : i = k
  · subst h1; simp
  · by_cases h2 : i = k + 1
    · subst h2; simp
    · simp [h1, h2]

theorem edge_swp {ops : Nat → Opp} {n k u v : Nat} (hk : k + 1 < n) (hnc : (ops k).t = (ops (k + 1)).t ∨ (ops k).s ≠ (ops (k + 1)).s ∨ ((ops k).wr = false ∧ (ops (k + 1)).wr = false)) (h : Edge ops n u v) : Edge (swp ops k) n u v := by
  obtain ⟨i, j, hij, hj, hc⟩ := h
  have hnot : ¬ (i = k ∧ j = k + 1) := by
    rintro ⟨rfl, rfl⟩
    obtain ⟨h1, h2, h3, h4, h5⟩ := hc
    rcases hnc with h | h | ⟨h6, h7⟩
    · exact h3 (h1.symm.trans (h.trans h2))
    · exact h h4
    · rcases h5 with h5 | h5
      · rw [h6] at h5; cases h5
      · rw [h7] at h5; cases h5
  have hswp : ∀ a, swp ops k (if a = k then k + 1 else if a = k + 1 then k else a) = ops a := by
    intro a
    unfold swp
    by_cases h1 : a = k
    · subst h1; simp
    · by_cases h2 : a = k + 1
      · subst h2; simp
      · simp [h1, h2]
  refine ⟨if i = k then k + 1 else if i = k + 1 then k else i, if j = k then k + 1 else if j = k + 1 then k else j, ?_, ?_, by rw [hswp, hswp]; exact hc⟩
  · split <;> split <;> (try split) <;> (try split) <;> omega
  · split
    · omega
    · split <;> omega

/-- Neighbours that do not conflict changed over: the same edges. -/
theorem swap_edges (ops : Nat → Opp) (n k : Nat) (hk : k + 1 < n) (hnc : (ops k).t = (ops (k + 1)).t ∨ (ops k).s ≠ (ops (k + 1)).s ∨ ((ops k).wr = false ∧ (ops (k + 1)).wr = false)) (u v : Nat) :
    v ∈ (runF ops n).succ u ↔ v ∈ (runF (swp ops k) n).succ u := by
  rw [(run_ok ops n).edge, (run_ok (swp ops k) n).edge]
  constructor
  · exact edge_swp hk hnc
  · intro h
    have := edge_swp (ops := swp ops k) hk (by
      have e1 : swp ops k k = ops (k + 1) := by simp [swp]
      have e2 : swp ops k (k + 1) = ops k := by simp [swp]
      rw [e1, e2]
      rcases hnc with h | h | ⟨h6, h7⟩
      · exact .inl h.symm
      · exact .inr (.inl (Ne.symm h))
      · exact .inr (.inr ⟨h7, h6⟩)) h
    rw [swp_swp] at this
    exact this

end Go.Proofs.Qxb6600445a
