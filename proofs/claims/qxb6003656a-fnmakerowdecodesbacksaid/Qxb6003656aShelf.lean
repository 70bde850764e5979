import Derived.Test.Qxb6003656aRows
import Derived.Shelf.Strings.Builder1
import Derived.Shelf.Strings.Builder2
import Derived.Deep.AppendLies
import Derived.Lib.AppendStr
import Derived.Lib.Builder
import Derived.Lib.Walk
import Derived.WalkKit
namespace Go.Proofs.Qxb6003656a
open Go.Shelf Go.RowKit

/-- Where the shelf's functions and types stand in this program. -/
def sren : Ren := ⟨
  fun x => match x with | 165 => 29 | 169 => 32 | 240 => 33 | 241 => 34 | 276 => 35 | 277 => 36 | n => n,
  fun x => match x with | 70 => 58 | 72 => 60 | 37 => 23 | 164 => 69 | 127 => 68 | n => n,
  fun n => n⟩

theorem lays165 : Lays.n165 Try.prog sren := by
  constructor <;> first | kernel_rfl | (intro w; kernel_rfl)
theorem lays169 : Lays.n169 Try.prog sren := by
  constructor <;> first | kernel_rfl | (intro w; kernel_rfl)
theorem sx72 : Builder.X72 Try.prog sren := by
  constructor <;> first | kernel_rfl | (intro w; kernel_rfl)
theorem sextra : Builder.Extra Try.prog sren :=
  { toX72 := sx72, t5 := by kernel_rfl, a5 := fun w => by kernel_rfl, z5 := fun w => by kernel_rfl, v5 := fun w => by kernel_rfl, infoByte := by kernel_rfl, cellsByte := by kernel_rfl, sizeByte := by kernel_rfl, neB5 := by decide }

theorem grow_any (B b n : Nat) (w : World) (hB : B ≤ b) (hbk : w.heap[b]? = some (.cells #[.pointer none, .slice none 0 0] 60 (0, 0))) (hBw : B ≤ w.heap.size) (hn : n ≤ 281474976710656) :
    Calls Try.prog 29 #[.pointer (some ⟨b, 0, none⟩), .int .i64 n] w fun e w' => e = .returned (.tuple #[]) ∧ (Lib.BuilderAt 60 5 B b (.pointer (some ⟨b, 0, none⟩)) [] w' ∧ Below B w w') :=
  Any.Builder_Grow_fresh lays165 sextra B b n w hB hbk hBw hn

theorem string_any (B b : Nat) (l : List UInt8) (w : World) (h : Lib.IsBuilder 60 5 B b (Lib.byteCells l) w) (hBw : B ≤ w.heap.size) :
    Calls Try.prog 32 #[.pointer (some ⟨b, 0, none⟩)] w fun e w' => e = .returned (.string ⟨l.toArray⟩) ∧ Below B w w' :=
  Any.Builder_String_any lays169 sextra B b l w h hBw

theorem copyCheck_used (b : Nat) (w : World) (h0 : w.cell? ⟨b, 0, none⟩ = some (.pointer (some ⟨b, 0, none⟩))) :
    Calls Try.prog 33 #[.pointer (some ⟨b, 0, none⟩)] w fun e w' => e = .returned (.tuple #[]) ∧ w = w' :=
  (Any.Builder_copyCheck_used (ρ := sren) { lays165 with } sx72 b w h0).mono fun _ _ ⟨h1, h2⟩ => ⟨h1, h2.symm⟩

/-- A used builder in block b with the bytes bs. -/
def Bld (w : World) (B b : Nat) (bs : List Value) : Prop :=
  B ≤ b ∧ ∃ v, w.heap[b]? = some (.cells #[.pointer (some ⟨b, 0, none⟩), v] 60 (0, 0)) ∧ w.ownsRow B 5 1 v bs.length bs

theorem infoByte : (Try.prog.info? 5).map (fun i => (i.zero, i.size, i.bytes)) = some (some (.int .u8 0), 1, 1) := by kernel_rfl

/-- Each block that is neither a row of bytes nor a builder has been kept. -/
def Kept (w w' : World) : Prop := ∀ (x : Nat) (cs : Array Value) (T : TypeId) (f : Nat × Nat), T ≠ 5 → T ≠ 60 → w.heap[x]? = some (Obj.cells cs T f) → w'.heap[x]? = some (Obj.cells cs T f)

theorem Kept.trans {w w' w'' : World} (h : Kept w w') (h' : Kept w' w'') : Kept w w'' := fun x cs T f h1 h2 h3 => h' x cs T f h1 h2 (h x cs T f h1 h2 h3)

/-- What a write leaves: the bytes more; nothing below B has turned; Kept. -/
def Wrote (w w' : World) (B b : Nat) (bs : List Value) : Prop := Bld w' B b bs ∧ Below B w w' ∧ Kept w w'

/-- A row of bytes does not lie where a block of another type lies. -/
theorem ownsRow_far {w : World} {B : Nat} {v : Value} {n : Nat} {xs : List Value} (h : w.ownsRow B 5 1 v n xs) {x : Nat} {cs : Array Value} {T : TypeId} {f : Nat × Nat} (hT : T ≠ 5) (hx : w.heap[x]? = some (.cells cs T f)) : v.ownBlock ≠ some x := by
  rcases h.2 with ⟨rfl, _⟩ | ⟨g, cap, cur, rfl, _, hg, _⟩
  · simp [Value.ownBlock]
  · intro e
    simp [Value.ownBlock] at e
    subst e
    rw [hg] at hx
    simp at hx
    exact hT hx.2.1.symm

/-- The builder behind a store of its new buffer. -/
theorem Bld.put {w2 : World} {B b : Nat} {bs : List Value} {v v' : Value} (hB : B ≤ b) (hb2 : w2.heap[b]? = some (.cells #[.pointer (some ⟨b, 0, none⟩), v] 60 (0, 0)))
    (hown : w2.ownsRow B 5 1 v' bs.length bs) :
    Bld (w2.setCell ⟨b, 1, none⟩ v') B b bs := by
  refine ⟨hB, v', ?_, ?_⟩
  · simp [World.setCell, Array.getElem?_modify, hb2]
  · refine hown.kept (row := some b) ⟨rfl, rfl, rfl, by simp [World.setCell], fun k _ hk => Below.heap_setCell _ _ _ _ (fun e => hk (by simp [e]))⟩ ?_
    exact Or.inr (ownsRow_far hown (by decide) hb2)

theorem Kept.put {w2 : World} {b : Nat} {v v' : Value} (hb2 : w2.heap[b]? = some (.cells #[.pointer (some ⟨b, 0, none⟩), v] 60 (0, 0))) : Kept w2 (w2.setCell ⟨b, 1, none⟩ v') := by
  intro x cs T f _ h60 hx
  have hne : x ≠ b := by
    rintro rfl
    rw [hb2] at hx
    simp at hx
    exact h60 hx.2.1.symm
  rw [Below.heap_setCell _ _ _ _ (by show x ≠ b; exact hne)]
  exact hx

theorem Kept.grown {w w2 : World} {B : Nat} {v : Value} {n : Nat} {xs : List Value} (hown : w.ownsRow B 5 1 v n xs) (hg : w.grownBy w2 v.ownBlock) : Kept w w2 := by
  intro x cs T f h5 _ hx
  rw [hg.block x (Array.getElem?_eq_some_iff.1 hx).1 (fun e => ownsRow_far hown h5 hx e.symm)]
  exact hx

theorem Kept.alloc (w : World) (o : Obj) : Kept w (w.alloc o) := by
  intro x cs T f _ _ hx
  rw [Lib.alloc_old w _ x (Array.getElem?_eq_some_iff.1 hx).1]
  exact hx

set_option maxHeartbeats 2000000 in
set_option maxRecDepth 100000 in
theorem writeByte_any (B b : Nat) (bs : List Value) (c : Int) (w : World) (h : Bld w B b bs) (hlen : bs.length + 1 ≤ 140737488355328) (hBw : B ≤ w.heap.size) :
    Calls Try.prog 31 #[.pointer (some ⟨b, 0, none⟩), .int .u8 c] w fun e w' => e = .returned .nilIface ∧ Wrote w w' B b (bs ++ [.int .u8 c]) := by
  obtain ⟨i0, hi, hz0, hz1, hz2⟩ := info_parts infoByte
  obtain ⟨hB, v, hbk, hown⟩ := h
  have c0 : w.cell? ⟨b, 0, none⟩ = some (.pointer (some ⟨b, 0, none⟩)) := by rw [Lib.cell_of_heap hbk]; rfl
  have c1 : w.cell? ⟨b, 1, none⟩ = some v := by rw [Lib.cell_of_heap hbk]; rfl
  go_enter Try.func31, Try.ntmps31
  go_wp2_with (go_at_call 33; refine (copyCheck_used b _ c0).mono ?_)
  rintro e w1 ⟨rfl, rfl⟩
  have hlt : b < w.heap.size := (Array.getElem?_eq_some_iff.1 hbk).1
  go_wp2_with (at_builtin; refine wpList_append_lies _ rfl _ _ 23 rfl B 5 i0 (.int .u8 0) 1 1 Try.underlying23 hi hz0 hz1 hz2 rfl (by omega) _ _ _ rfl (hown.alloc _) ⟨w.heap.size, 0, none⟩ 1 1 [.int .u8 c] rfl rfl ?c1 ?c2 (by omega) ?c3 ?c4 ?c5 (w.heap.size + 1) (by simp) ?_)
  case c1 =>
    intro j u hj
    match j, hj with
    | 0, hj => simp at hj; subst hj; simp [Addr.add]
  case c2 => intro u hu; simp at hu; subst hu; rfl
  case c3 => unfold maxLen; omega
  case c4 => omega
  case c5 => simp; omega
  intro g cap w2 hown' hgrow hat hgl
  have hne : v.ownBlock ≠ some b := ownsRow_far hown (by decide) hbk
  have hb2 : w2.heap[b]? = some (.cells #[.pointer (some ⟨b, 0, none⟩), v] 60 (0, 0)) := by
    rw [hgrow.block b (by simp; omega) (fun e => hne e.symm), Lib.alloc_old w _ b hlt]
    exact hbk
  have d0 : w2.cell? ⟨b, 0, none⟩ = some (.pointer (some ⟨b, 0, none⟩)) := by rw [Lib.cell_of_heap hb2]; rfl
  have d1 : w2.cell? ⟨b, 1, none⟩ = some v := by rw [Lib.cell_of_heap hb2]; rfl
  have f1 : w2.frozen? ⟨b, 1, none⟩ = false := Lib.frozen_of_heap hb2 1
  have hbel : Below B w w2 := ((Below.refl B w).alloc hBw _).grown hgrow (by simp; omega) (fun k hk => (hown.lt k hk).1)
  have hkept : Kept w w2 := (Kept.alloc w _).trans (Kept.grown (hown.alloc _) hgrow)
  have hput := Bld.put (bs := bs ++ [.int .u8 c]) hB hb2 (v' := .slice (some ⟨g, 0, none⟩) (bs.length + 1) cap) (by simpa using hown')
  have hkp := hkept.trans (Kept.put hb2 (v' := .slice (some ⟨g, 0, none⟩) (bs.length + 1) cap))
  clear hown hown' hgrow hat c0 c1 hbk
  go_wp2
  go_ret
  exact ⟨rfl, by simpa using hput, hbel.setCell (p := ⟨b, 1, none⟩) hB _, by simpa using hkp⟩

set_option maxHeartbeats 2000000 in
set_option maxRecDepth 100000 in
theorem writeString_any (B b : Nat) (bs : List Value) (s : ByteArray) (w : World) (h : Bld w B b bs) (hlen : bs.length + s.size ≤ 140737488355328) (hBw : B ≤ w.heap.size) :
    Calls Try.prog 30 #[.pointer (some ⟨b, 0, none⟩), .string s] w fun e w' => e = .returned (.tuple #[.int .i64 s.size, .nilIface]) ∧ Wrote w w' B b (bs ++ Lib.strCells s) := by
  obtain ⟨i0, hi, hz0, hz1, hz2⟩ := info_parts infoByte
  obtain ⟨hB, v, hbk, hown⟩ := h
  have c0 : w.cell? ⟨b, 0, none⟩ = some (.pointer (some ⟨b, 0, none⟩)) := by rw [Lib.cell_of_heap hbk]; rfl
  have c1 : w.cell? ⟨b, 1, none⟩ = some v := by rw [Lib.cell_of_heap hbk]; rfl
  go_enter Try.func30, Try.ntmps30
  go_wp2_with (go_at_call 33; refine (copyCheck_used b _ c0).mono ?_)
  rintro e w1 ⟨rfl, rfl⟩
  have hlt : b < w.heap.size := (Array.getElem?_eq_some_iff.1 hbk).1
  go_wp2_with (at_builtin; refine Lib.wpList_append_own_string _ rfl _ _ 23 9 rfl B 5 i0 Try.underlying23 Try.underlying9 hi hz0 hz1 hz2 _ _ _ rfl hown s rfl ?c3 ?c4 ?c5 ?_)
  case c3 => unfold maxLen; omega
  case c4 => omega
  case c5 => omega
  intro v' w2 hown' hgrow hv'
  have hne : v.ownBlock ≠ some b := ownsRow_far hown (by decide) hbk
  have hb2 : w2.heap[b]? = some (.cells #[.pointer (some ⟨b, 0, none⟩), v] 60 (0, 0)) := by
    rw [hgrow.block b hlt (fun e => hne e.symm)]
    exact hbk
  have d0 : w2.cell? ⟨b, 0, none⟩ = some (.pointer (some ⟨b, 0, none⟩)) := by rw [Lib.cell_of_heap hb2]; rfl
  have d1 : w2.cell? ⟨b, 1, none⟩ = some v := by rw [Lib.cell_of_heap hb2]; rfl
  have f1 : w2.frozen? ⟨b, 1, none⟩ = false := Lib.frozen_of_heap hb2 1
  have hbel : Below B w w2 := (Below.refl B w).grown hgrow (by omega) (fun k hk => (hown.lt k hk).1)
  have hkept : Kept w w2 := Kept.grown hown hgrow
  have hput := Bld.put (bs := bs ++ Lib.strCells s) hB hb2 (v' := v') (by simpa [Lib.strCells_length] using hown')
  have hkp := hkept.trans (Kept.put hb2 (v' := v'))
  obtain ⟨ad, cap, rfl⟩ : ∃ ad cap, v' = .slice ad (bs.length + s.size) cap := by
    rcases hown'.2 with ⟨h1, h2⟩ | ⟨g, cap, cur, h1, _⟩
    · exact ⟨none, 0, by rw [h1, h2]⟩
    · exact ⟨_, cap, h1⟩
  clear hown hown' hgrow hv' c0 c1 hbk
  go_wp2
  go_ret2
  exact ⟨rfl, hput, hbel.setCell (p := ⟨b, 1, none⟩) hB _, hkp⟩

end Go.Proofs.Qxb6003656a
