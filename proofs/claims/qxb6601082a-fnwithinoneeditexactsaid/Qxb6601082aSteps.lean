import Derived.Test.Qxb6601082aCopy
namespace Go.Proofs.Qxb6601082a
open Go.RowKit

def cpG (F : Nat → Int) (t j : Nat) : Int := if j < t then F j else 0
def insH (F : Nat → Int) (k : Nat) (x : Int) (t j : Nat) : Int := if j < k then F j else if j = k then x else if j < t + 1 then F (j - 1) else 0
def ins2H (F : Nat → Int) (k : Nat) (x : Int) (t j : Nat) : Int := if j < k then F j else if j = k then x else if j = k + 1 then x else if j < t + 2 then F (j - 2) else 0
def delH (F : Nat → Int) (k : Nat) (t j : Nat) : Int := if j < k then F j else if j + 1 < t then F (j + 1) else 0
def repF (F : Nat → Int) (k : Nat) (x : Int) (j : Nat) : Int := if j = k then x else F j
def swF (F : Nat → Int) (k : Nat) (j : Nat) : Int := if j = k + 1 then F k else if j = k then F (k + 1) else F j

theorem int_congr {a b : Int} (h : a = b) : Value.int .i32 a = Value.int .i32 b := by rw [h]

theorem cp_start (F : Nat → Int) (j : Nat) : Value.int .i32 0 = Value.int .i32 (cpG F 0 j) := by simp [cpG]
theorem cp_step (F : Nat → Int) (t j : Nat) : (if j = t then Value.int .i32 (F t) else Value.int .i32 (cpG F t j)) = Value.int .i32 (cpG F (t + 1) j) := by
  by_cases e : j = t
  · subst e; simp [cpG]
  · rw [if_neg e]
    apply int_congr
    unfold cpG
    by_cases h : j < t
    · rw [if_pos h, if_pos (by omega)]
    · rw [if_neg h, if_neg (by omega)]
theorem ins_start (F : Nat → Int) (k : Nat) (x : Int) (j : Nat) : (if j = k then Value.int .i32 x else Value.int .i32 (cpG F k j)) = Value.int .i32 (insH F k x k j) := by
  by_cases e : j = k
  · subst e; simp [insH]
  · rw [if_neg e]
    apply int_congr
    unfold cpG insH
    by_cases h : j < k
    · rw [if_pos h, if_pos h]
    · rw [if_neg h, if_neg h, if_neg e, if_neg (by omega)]
theorem ins_step (F : Nat → Int) (k : Nat) (x : Int) (t j : Nat) (ht : k ≤ t) : (if j = t + 1 then Value.int .i32 (F t) else Value.int .i32 (insH F k x t j)) = Value.int .i32 (insH F k x (t + 1) j) := by
  by_cases e : j = t + 1
  · subst e
    rw [if_pos rfl]
    apply int_congr
    unfold insH
    rw [if_neg (by omega), if_neg (by omega), if_pos (by omega)]; rfl
  · rw [if_neg e]
    apply int_congr
    unfold insH
    by_cases h : j < k
    · rw [if_pos h, if_pos h]
    · rw [if_neg h, if_neg h]
      by_cases h2 : j = k
      · rw [if_pos h2, if_pos h2]
      · rw [if_neg h2, if_neg h2]
        by_cases h3 : j < t + 1
        · rw [if_pos h3, if_pos (by omega)]
        · rw [if_neg h3, if_neg (by omega)]
theorem ins2_start (F : Nat → Int) (k : Nat) (x : Int) (j : Nat) : (if j = k + 1 then Value.int .i32 x else if j = k then Value.int .i32 x else Value.int .i32 (cpG F k j)) = Value.int .i32 (ins2H F k x k j) := by
  by_cases e : j = k + 1
  · rw [if_pos e]
    apply int_congr
    unfold ins2H
    rw [if_neg (by omega), if_neg (by omega), if_pos e]
  · rw [if_neg e]
    by_cases e2 : j = k
    · rw [if_pos e2]
      apply int_congr
      unfold ins2H
      rw [if_neg (by omega), if_pos e2]
    · rw [if_neg e2]
      apply int_congr
      unfold cpG ins2H
      by_cases h : j < k
      · rw [if_pos h, if_pos h]
      · rw [if_neg h, if_neg h, if_neg e2, if_neg e, if_neg (by omega)]
theorem ins2_step (F : Nat → Int) (k : Nat) (x : Int) (t j : Nat) (ht : k ≤ t) : (if j = t + 2 then Value.int .i32 (F t) else Value.int .i32 (ins2H F k x t j)) = Value.int .i32 (ins2H F k x (t + 1) j) := by
  by_cases e : j = t + 2
  · subst e
    rw [if_pos rfl]
    apply int_congr
    unfold ins2H
    rw [if_neg (by omega), if_neg (by omega), if_neg (by omega), if_pos (by omega)]; rfl
  · rw [if_neg e]
    apply int_congr
    unfold ins2H
    by_cases h : j < k
    · rw [if_pos h, if_pos h]
    · rw [if_neg h, if_neg h]
      by_cases h2 : j = k
      · rw [if_pos h2, if_pos h2]
      · rw [if_neg h2, if_neg h2]
        by_cases h3 : j = k + 1
        · rw [if_pos h3, if_pos h3]
        · rw [if_neg h3, if_neg h3]
          by_cases h4 : j < t + 2
          · rw [if_pos h4, if_pos (by omega)]
          · rw [if_neg h4, if_neg (by omega)]
theorem del_start (F : Nat → Int) (k j : Nat) : Value.int .i32 (cpG F k j) = Value.int .i32 (delH F k (k + 1) j) := by
  apply int_congr
  unfold cpG delH
  by_cases h : j < k
  · rw [if_pos h, if_pos h]
  · rw [if_neg h, if_neg h, if_neg (by omega)]
theorem del_step (F : Nat → Int) (k t j : Nat) (ht : k + 1 ≤ t) : (if j = t - 1 then Value.int .i32 (F t) else Value.int .i32 (delH F k t j)) = Value.int .i32 (delH F k (t + 1) j) := by
  by_cases e : j = t - 1
  · rw [if_pos e]
    apply int_congr
    unfold delH
    rw [if_neg (by omega), if_pos (by omega), show j + 1 = t by omega]
  · rw [if_neg e]
    apply int_congr
    unfold delH
    by_cases h : j < k
    · rw [if_pos h, if_pos h]
    · rw [if_neg h, if_neg h]
      by_cases h2 : j + 1 < t
      · rw [if_pos h2, if_pos (by omega)]
      · rw [if_neg h2, if_neg (by omega)]
theorem rep_row (F : Nat → Int) (k : Nat) (x : Int) (n j : Nat) (hj : j < n) : (if j = k then Value.int .i32 x else Value.int .i32 (cpG F n j)) = Value.int .i32 (repF F k x j) := by
  unfold repF
  by_cases e : j = k
  · rw [if_pos e, if_pos e]
  · rw [if_neg e, if_neg e]
    apply int_congr
    unfold cpG
    rw [if_pos hj]
theorem sw_row (F : Nat → Int) (k : Nat) (n j : Nat) (hj : j < n) : (if j = k + 1 then Value.int .i32 (F k) else if j = k then Value.int .i32 (F (k + 1)) else Value.int .i32 (cpG F n j)) = Value.int .i32 (swF F k j) := by
  unfold swF
  by_cases e : j = k + 1
  · rw [if_pos e, if_pos e]
  · rw [if_neg e, if_neg e]
    by_cases e2 : j = k
    · rw [if_pos e2, if_pos e2]
    · rw [if_neg e2, if_neg e2]
      apply int_congr
      unfold cpG
      rw [if_pos hj]

theorem edit_self (n : Nat) (F : Nat → Int) : OneEdit n F n F := oneEdit_prefix (Nat.le_refl _) (by omega) (fun _ _ => rfl)
theorem edit_ins (n k : Nat) (F : Nat → Int) (x : Int) (hk : k ≤ n) : OneEdit n F (n + 1) (insH F k x n) := by
  refine .inr (.inl ⟨rfl, k, hk, fun j hj => ?_, fun j a b => ?_⟩)
  · unfold insH; rw [if_pos hj]
  · unfold insH; rw [if_neg (by omega), if_neg (by omega), if_pos (by omega)]; rfl
theorem edit_del (n k : Nat) (F : Nat → Int) (hk : k < n) : OneEdit n F (n - 1) (delH F k n) := by
  refine .inr (.inr ⟨by omega, k, by omega, fun j hj => ?_, fun j a b => ?_⟩)
  · unfold delH; rw [if_pos hj]
  · unfold delH; rw [if_neg (by omega), if_pos (by omega)]
theorem edit_rep (n k : Nat) (F : Nat → Int) (x : Int) : OneEdit n F n (repF F k x) :=
  oneEdit_count1 (p := k) (fun j _ hne => by unfold repF; rw [if_neg hne])
theorem edit_sw (n k : Nat) (F : Nat → Int) (hk : k + 1 < n) : OneEdit n F n (swF F k) := by
  refine .inl ⟨rfl, .inr ⟨k, hk, ?_, ?_, fun j _ a b => ?_⟩⟩
  · unfold swF; rw [if_pos rfl]
  · unfold swF; rw [if_neg (by omega), if_pos rfl]
  · unfold swF; rw [if_neg b, if_neg a]

theorem OE.yes {e : Ending} {n m : Nat} {f g : Nat → Int} (h : OE e n f m g) (ho : OneEdit n f m g) : e = .returned (.bool true) := by
  obtain ⟨b, h1, h2⟩ := h
  rw [h1, h2.2 ho]
theorem OE.no {e : Ending} {n m : Nat} {f g : Nat → Int} (h : OE e n f m g) (ho : ¬ OneEdit n f m g) : e = .returned (.bool false) := by
  obtain ⟨b, h1, h2⟩ := h
  cases b with
  | true => exact absurd (h2.1 rfl) ho
  | false => exact h1

/-- The state between two stages: nothing that was there when the law began has turned; s's copy lies there. -/
structure St (w wc : World) (sv : Option Addr) (n c : Nat) (F : Nat → Int) : Prop where
  bel : Below w.heap.size w wc
  sl : Sl wc sv n c F

theorem St.drewN {w wc : World} {sv : Option Addr} {n c : Nat} {F : Nat → Int} (h : St w wc sv n c F) (q : Nat) : St w (wc.drewN q) sv n c F := ⟨below_drewN h.bel q, h.sl.drewN q⟩
theorem St.drawn {w wc w' : World} {sv : Option Addr} {n c : Nat} {F : Nat → Int} (h : St w wc sv n c F) (hd : Drawn wc w') : St w w' sv n c F := by
  obtain ⟨q, rfl⟩ := hd
  exact h.drewN q
theorem St.next {w wc wr : World} {sv : Option Addr} {n c : Nat} {F : Nat → Int} (h : St w wc sv n c F) (hb : Below wc.heap.size wc wr) : St w wr sv n c F := ⟨h.bel.trans (hb.mono h.bel.size), h.sl.below hb⟩
theorem Sl.drawn {w w' : World} {a : Option Addr} {n c : Nat} {f : Nat → Int} (h : Sl w a n c f) (hd : Drawn w w') : Sl w' a n c f := by
  obtain ⟨q, rfl⟩ := hd
  exact h.drewN q

end Go.Proofs.Qxb6601082a
