import Derived.Test.Qxb6600445aMaps
import Derived.Test.Qxb6600445aPlain
import Derived.Deep.OwnRows
import Derived.Deep.AppendLies
import Derived.Deep.RegionHeld3
import Derived.Deep.RegionLaw
import Derived.Deep.DrawnRows
import Derived.Deep.QuietTactic
import Derived.BigQuiet
import Derived.WalkLawsBesides
import Derived.WalkSpells
import Derived.DeepKeys4
namespace Go.Proofs.Qxb6600445a
open Go.RowKit Go.Maps

/-- Nothing but blocks of F has turned. -/
structure Turned (F : Nat → Prop) (w w' : World) : Prop where
  os : w'.os = w.os
  tape : w'.tape = w.tape
  output : w'.output = w.output
  size : w.heap.size ≤ w'.heap.size
  block : ∀ b, b < w.heap.size → ¬ F b → w'.heap[b]? = w.heap[b]?

def arcV (u v : Nat) : Value := .agg #[.int .i64 u, .int .i64 v]
def ints (l : List Nat) : List Value := l.map fun (v : Nat) => .int .i64 (v : Int)

/-- The graph on m nodes with the successors succ, in blocks of F. -/
def GraphRep (w : World) (F : Nat → Prop) (gb m : Nat) (succ : Nat → List Nat) : Prop := ∃ (ob eb : Nat) (G : Nat → Value) (M : Value → Option Value),
  w.heap[gb]? = some (.cells #[.slice (some ⟨ob, 0, none⟩) m m, .map (some eb)] 57 (0, 0)) ∧
  w.rowIs ob 42 m G ∧
  (∀ u, u < m → w.ownsRow 0 3 1 (G u) (succ u).length (ints (succ u))) ∧
  (∀ u v b, u < m → v < m → (G u).ownBlock = some b → (G v).ownBlock = some b → u = v) ∧
  MapIs Try.prog 83 w eb M ∧ (∀ u v, u < m → v < m → M (arcV u v) = if v ∈ succ u then some (.agg #[]) else none) ∧
  F gb ∧ F ob ∧ F eb ∧ (∀ u b, u < m → (G u).ownBlock = some b → F b)

theorem Try.laidOut : laidOutB Try.prog = true := by kernel_rfl
theorem law83 : Keyed Try.prog 83 := Keyed.of_law (deep_law_laid Try.laidOut (m := 3) (by decide) (by decide +kernel) (by kernel_rfl) (by kernel_rfl))
theorem law9 : Keyed Try.prog 9 := string_keyed Try.underlying9
theorem law44 : Keyed Try.prog 44 := string_keyed Try.underlying44
theorem law3 : Keyed Try.prog 3 := int_keyed Try.underlying3
theorem Try.info42 : (Try.prog.info? 42).map (fun i => (i.zero, i.size, i.bytes)) = some (some (.slice none 0 0), 1, 24) := by kernel_rfl
theorem Try.info3 : (Try.prog.info? 3).map (fun i => (i.zero, i.size, i.bytes)) = some (some (.int .i64 0), 1, 8) := by kernel_rfl
theorem zero84 (w : World) : (zeroValue 84).run Try.prog w = .ok (.agg #[]) w := by kernel_rfl

set_option maxHeartbeats 1000000 in
theorem newGraph_any (n : Nat) (w : World) (hn : n ≤ 65536) :
    Calls Try.prog 35 #[.int .i64 n] w fun e w' => ∃ gb, e = .returned (.pointer (some ⟨gb, 0, none⟩)) ∧ Below w.heap.size w w' ∧ GraphRep w' (fun b => w.heap.size ≤ b) gb n (fun _ => []) := by
  have hmk := run_make_row' (P := Try.prog) 36 42 (.slice none 0 0) 24 Try.underlying36 Try.info42 rfl .i64 .i64 n (by omega) (by omega)
  have hmm := @run_makeMap Try.prog
  go_enter Try.func35, Try.ntmps35
  go_wp2
  go_ret
  refine ⟨w.heap.size + 1 + 1, rfl, (((Below.refl _ _).alloc (Nat.le_refl _) _).alloc (by simp) _).alloc (by simp; omega) _, w.heap.size, w.heap.size + 1, fun _ => .slice none 0 0, fun _ => none, ?_, ?_, fun u hu => World.ownsRow_nil _ _ _ _, fun u v b _ _ h => by simp [Value.ownBlock] at h, ?_, fun u v _ _ => by simp, by omega, by omega, by omega, fun u b _ h => by simp [Value.ownBlock] at h⟩
  · have := heap_alloc_new ((w.alloc (.cells (madeCells #[.slice none 0 0] n) 42)).alloc (.map #[] 0)) (.cells #[.slice (some ⟨w.heap.size, 0, none⟩) n n, .map (some (w.heap.size + 1))] 57)
    simpa using this
  · exact ((World.rowIs_made w (.slice none 0 0) n 42).alloc _).alloc _
  · have h := MapIs.made Try.prog 83 (w.alloc (.cells (madeCells #[.slice none 0 0] n) 42))
    have e : (w.alloc (.cells (madeCells #[.slice none 0 0] n) 42)).heap.size = w.heap.size + 1 := by simp
    rw [e] at h
    exact h.of_block (Below.heap_alloc _ _ _ (by simp))

theorem cells83 : Try.prog.cellsOf 83 = 2 := by kernel_rfl
theorem cells3 : Try.prog.cellsOf 3 = 1 := by kernel_rfl
theorem kt83 : Try.prog.keyType 83 = true := by kernel_rfl
set_option maxHeartbeats 100000 in
theorem lits83 (n : Nat) (u v : Nat) (w1 : (Lit.int .i64 (u : Int)).wf = true) (w2 : (Lit.int .i64 (v : Int)).wf = true) : ∃ l, Try.prog.keyLits (n + 2) 83 [.int .i64 u, .int .i64 v] = some l := by
  simp only [Program.keyLits, Try.underlying83]
  rw [if_pos ⟨by rw [cells83]; rfl, by kernel_rfl⟩]
  simp [List.mapM_cons, List.mapM_nil, Try.underlying3, cells3, w1, w2]

theorem size_two : ∃ n, Try.prog.types.size + 1 = n + 2 := ⟨Try.prog.types.size - 1, by have : 0 < Try.prog.types.size := by decide +kernel
                                                                                        omega⟩

set_option maxHeartbeats 100000 in
theorem key83 (u v : Nat) (hu : u ≤ 65536) (hv : v ≤ 65536) : ∃ l, keyOf Try.prog 83 (arcV u v) = some l := by
  obtain ⟨n, hn⟩ := size_two
  obtain ⟨l, hl⟩ := lits83 n u v (WalkArith.wf_i64 (by omega)) (WalkArith.wf_i64 (by omega))
  refine ⟨.string (keyBytes l), ?_⟩
  unfold keyOf
  have hf : Value.formed Try.prog 83 (arcV u v) = true := by
    simp only [Value.formed, arcV, Try.underlying83, cells83]
    rfl
  have hc : (arcV u v).cells.toList = [.int .i64 u, .int .i64 v] := rfl
  rw [Try.underlying83, hn, hc, hl, kt83, hf]
  rfl

theorem ownsRow_same {w w' : World} {base : Nat} {e : TypeId} {size : Nat} {v : Value} {n : Nat} {xs : List Value} (h : w.ownsRow base e size v n xs) (hb : ∀ b, v.ownBlock = some b → w'.heap[b]? = w.heap[b]?) : w'.ownsRow base e size v n xs := by
  refine ⟨h.1, ?_⟩
  rcases h.2 with h1 | ⟨g, cap, cur, rfl, h2, h3, h4⟩
  · exact .inl h1
  · exact .inr ⟨g, cap, cur, rfl, h2, (hb g rfl).trans h3, h4⟩

/-- A row of integers does not lie where a block of another type lies. -/
theorem ownsRow_far {w : World} {v : Value} {n : Nat} {xs : List Value} (h : w.ownsRow 0 3 1 v n xs) {x : Nat} {cs : Array Value} {T : TypeId} {f : Nat × Nat} (hT : T ≠ 3) (hx : w.heap[x]? = some (.cells cs T f)) : v.ownBlock ≠ some x := by
  rcases h.2 with ⟨rfl, _⟩ | ⟨g, cap, cur, rfl, _, hg, _⟩
  · simp [Value.ownBlock]
  · intro e
    simp [Value.ownBlock] at e
    subst e
    rw [hg] at hx
    simp at hx
    exact hT hx.2.1.symm

theorem ownsRow_notMap {w : World} {v : Value} {n : Nat} {xs : List Value} (h : w.ownsRow 0 3 1 v n xs) {x : Nat} {k : TypeId} {M : Value → Option Value} (hx : MapIs Try.prog k w x M) : v.ownBlock ≠ some x := by
  rcases h.2 with ⟨rfl, _⟩ | ⟨g, cap, cur, rfl, _, hg, _⟩
  · simp [Value.ownBlock]
  · intro e
    simp [Value.ownBlock] at e
    subst e
    obtain ⟨es, clock, h1, _⟩ := hx
    rw [hg] at h1
    cases h1

theorem notMap_of_cells {w : World} {x : Nat} {k : TypeId} {M : Value → Option Value} (hx : MapIs Try.prog k w x M) {y : Nat} {cs : Array Value} {T : TypeId} {f : Nat × Nat} (hy : w.heap[y]? = some (.cells cs T f)) : y ≠ x := by
  rintro rfl
  obtain ⟨es, clock, h1, _⟩ := hx
  rw [hy] at h1
  cases h1

theorem rowIs_block {w : World} {B : Nat} {t : TypeId} {n : Nat} {f : Nat → Value} (h : w.rowIs B t n f) : ∃ cs, w.heap[B]? = some (.cells cs t (0, 0)) := by
  obtain ⟨cs, h1, _⟩ := h
  exact ⟨cs, h1⟩

/-- The graph where only blocks outside of it have turned. -/
theorem GraphRep.same {w w' : World} {F F' : Nat → Prop} {gb m : Nat} {succ : Nat → List Nat} (h : GraphRep w F gb m succ) (hb : ∀ b, b < w.heap.size → F b → w'.heap[b]? = w.heap[b]?) (hF : ∀ b, F b → F' b) : GraphRep w' F' gb m succ := by
  obtain ⟨ob, eb, G, M, hgb, hrow, hown, hinj, hmap, hM, fg, fo, fe, fr⟩ := h
  exact ⟨ob, eb, G, M, (hb gb (Array.getElem?_eq_some_iff.1 hgb).1 fg).trans hgb, hrow.of_block (hb ob hrow.lt fo), fun u hu => ownsRow_same (hown u hu) (fun b e => hb b ((hown u hu).lt b e).2 (fr u b hu e)), hinj, hmap.of_block (hb eb hmap.lt fe), hM, hF _ fg, hF _ fo, hF _ fe, fun u b hu e => hF _ (fr u b hu e)⟩

theorem arcV_inj {x y u v : Nat} (h : arcV x y = arcV u v) : x = u ∧ y = v := by
  simp only [arcV, Value.agg.injEq] at h
  have h1 := congrArg (fun a : Array Value => a[0]?) h
  have h2 := congrArg (fun a : Array Value => a[1]?) h
  simp at h1 h2
  exact ⟨by omega, by omega⟩

/-- The graph behind the edge's laying. -/
theorem graph_added {w w3 w4 : World} {F : Nat → Prop} {gb m : Nat} {succ : Nat → List Nat} {u v ob eb : Nat} {G : Nat → Value} {M M3 : Value → Option Value} {o : Obj} {g cap : Nat}
    (hgb : w.heap[gb]? = some (.cells #[.slice (some ⟨ob, 0, none⟩) m m, .map (some eb)] 57 (0, 0))) (hrow : w.rowIs ob 42 m G) (hown : ∀ u, u < m → w.ownsRow 0 3 1 (G u) (succ u).length (ints (succ u)))
    (hinj : ∀ u v b, u < m → v < m → (G u).ownBlock = some b → (G v).ownBlock = some b → u = v) (hmap : MapIs Try.prog 83 w eb M) (hM : ∀ u v, u < m → v < m → M (arcV u v) = if v ∈ succ u then some (.agg #[]) else none)
    (fg : F gb) (fo : F ob) (fe : F eb) (fr : ∀ u b, u < m → (G u).ownBlock = some b → F b) (hu : u < m) (hmem : ¬ v ∈ succ u)
    (hos : w3.os = w.os ∧ w3.tape = w.tape ∧ w3.output = w.output) (hs3 : w.heap.size ≤ w3.heap.size) (hb3 : ∀ b, b < w.heap.size → b ≠ eb → w3.heap[b]? = w.heap[b]?) (hmap3 : MapIs Try.prog 83 w3 eb M3)
    (hM3 : M3 (arcV u v) = some (.agg #[])) (hM3' : ∀ y, y ≠ arcV u v → M3 y = M y)
    (hown4 : w4.ownsRow 0 3 1 (.slice (some ⟨g, 0, none⟩) ((succ u).length + 1) cap) ((succ u).length + 1) (ints (succ u) ++ [.int .i64 v])) (hg4 : (w3.alloc o).drew.grownBy w4 (G u).ownBlock) (hat4 : (G u).ownBlock = some g ∨ w3.heap.size ≤ g) :
    Turned F w (w4.setCell ⟨ob, u, none⟩ (.slice (some ⟨g, 0, none⟩) ((succ u).length + 1) cap)) ∧
    GraphRep (w4.setCell ⟨ob, u, none⟩ (.slice (some ⟨g, 0, none⟩) ((succ u).length + 1) cap)) (fun b => F b ∨ w.heap.size ≤ b) gb m (addE succ u v) := by
  obtain ⟨ocs, hob⟩ := rowIs_block hrow
  have hol := hrow.lt
  have hml := hmap.lt
  have hgl : gb < w.heap.size := (Array.getElem?_eq_some_iff.1 hgb).1
  have hobeb : ob ≠ eb := notMap_of_cells hmap hob
  have hgbeb : gb ≠ eb := notMap_of_cells hmap hgb
  have hgbob : gb ≠ ob := by
    rintro rfl
    rw [hob] at hgb
    simp at hgb
  have far : ∀ x, x < m → ∀ b, (G x).ownBlock = some b → b ≠ eb ∧ b ≠ ob ∧ b ≠ gb ∧ b < w.heap.size := fun x hx b e =>
    ⟨fun he => ownsRow_notMap (hown x hx) hmap (by rw [e, he]), fun he => ownsRow_far (hown x hx) (by decide) hob (by rw [e, he]), fun he => ownsRow_far (hown x hx) (by decide) hgb (by rw [e, he]), ((hown x hx).lt b e).2⟩
  have hb4 : ∀ b, b < w3.heap.size → some b ≠ (G u).ownBlock → w4.heap[b]? = w3.heap[b]? := fun b hb hne => (hg4.block b (by show b < (w3.alloc o).heap.size; simp; omega) hne).trans (Below.heap_alloc _ _ _ hb)
  have hb5 : ∀ b, b ≠ ob → (w4.setCell ⟨ob, u, none⟩ (.slice (some ⟨g, 0, none⟩) ((succ u).length + 1) cap)).heap[b]? = w4.heap[b]? := fun b hne => Below.heap_setCell _ _ _ _ (by show b ≠ ob; exact hne)
  have hbw : ∀ b, b < w.heap.size → b ≠ eb → b ≠ ob → some b ≠ (G u).ownBlock → (w4.setCell ⟨ob, u, none⟩ (.slice (some ⟨g, 0, none⟩) ((succ u).length + 1) cap)).heap[b]? = w.heap[b]? :=
    fun b hb h1 h2 h3 => (hb5 b h2).trans ((hb4 b (by omega) h3).trans (hb3 b hb h1))
  have hugb : some gb ≠ (G u).ownBlock := fun e => (far u hu gb e.symm).2.2.1 rfl
  have huob : some ob ≠ (G u).ownBlock := fun e => (far u hu ob e.symm).2.1 rfl
  have hueb : some eb ≠ (G u).ownBlock := fun e => (far u hu eb e.symm).1 rfl
  have hgob : g ≠ ob := by
    rcases hat4 with h | h
    · exact (far u hu g h).2.1
    · omega
  have hs4 : w.heap.size ≤ w4.heap.size := by
    have h1 : (w3.alloc o).heap.size ≤ w4.heap.size := hg4.size
    simp at h1
    omega
  have hrow4 : w4.rowIs ob 42 m G := hrow.of_block ((hb4 ob (by omega) huob).trans (hb3 ob hol hobeb))
  refine ⟨⟨hg4.os.trans hos.1, hg4.tape.trans hos.2.1, hg4.output.trans hos.2.2, by simpa [World.setCell] using hs4, fun b hb hF => ?_⟩, ob, eb, fun x => if x = u then .slice (some ⟨g, 0, none⟩) ((succ u).length + 1) cap else G x, M3, ?_, ?_, fun x hx => ?_, fun x y b hx hy e1 e2 => ?_, ?_, fun x y hx hy => ?_, .inl fg, .inl fo, .inl fe, fun x b hx e => ?_⟩
  · exact hbw b hb (fun e => hF (e ▸ fe)) (fun e => hF (e ▸ fo)) (fun e => hF (fr u b hu e.symm))
  · rw [hbw gb hgl hgbeb hgbob hugb]; exact hgb
  · exact (hrow4.set u _).congr (fun i hi => by by_cases e : i = u <;> simp [e])
  · by_cases e : x = u
    · subst e
      have ea : addE succ x v x = succ x ++ [v] := by unfold addE; rw [if_neg hmem, if_pos rfl]
      rw [ea]
      simp only [if_true]
      have ei : ints (succ x ++ [v]) = ints (succ x) ++ [.int .i64 v] := by simp [ints]
      have el : (succ x ++ [v]).length = (succ x).length + 1 := by simp
      rw [ei, el]
      refine ownsRow_same hown4 (fun b e1 => hb5 b ?_)
      simp [Value.ownBlock] at e1
      rw [← e1]
      exact hgob
    · have ea : addE succ u v x = succ x := by unfold addE; rw [if_neg hmem]; simp only [if_neg e]
      rw [ea]
      simp only [if_neg e]
      refine ownsRow_same (hown x hx) (fun b e1 => ?_)
      have hf := far x hx b e1
      exact hbw b hf.2.2.2 hf.1 hf.2.1 (fun e2 => e (hinj x u b hx hu e1 e2.symm))
  · have hg : ∀ z, z < m → z ≠ u → (G z).ownBlock = some b → b ≠ g := by
      intro z hz hzu ez hbg
      rcases hat4 with h | h
      · exact hzu (hinj z u b hz hu ez (by rw [h, hbg]))
      · have := (far z hz b ez).2.2.2
        omega
    by_cases ex : x = u
    · by_cases ey : y = u
      · rw [ex, ey]
      · simp only [if_pos ex, if_neg ey, Value.ownBlock] at e1 e2
        exact absurd (by simpa using e1.symm) (hg y hy ey e2)
    · by_cases ey : y = u
      · simp only [if_neg ex, if_pos ey, Value.ownBlock] at e1 e2
        exact absurd (by simpa using e2.symm) (hg x hx ex e1)
      · simp only [if_neg ex, if_neg ey] at e1 e2
        exact hinj x y b hx hy e1 e2
  · exact hmap3.of_block ((hb5 eb (Ne.symm hobeb)).trans (hb4 eb (by omega) hueb))
  · by_cases e : x = u ∧ y = v
    · obtain ⟨rfl, rfl⟩ := e
      rw [hM3, if_pos ((mem_addE succ x y x y).2 (.inr ⟨rfl, rfl⟩))]
    · rw [hM3' _ (fun h => e (arcV_inj h)), hM x y hx hy]
      by_cases hy2 : y ∈ succ x
      · rw [if_pos hy2, if_pos ((mem_addE succ u v x y).2 (.inl hy2))]
      · rw [if_neg hy2, if_neg (fun h => ((mem_addE succ u v x y).1 h).elim hy2 e)]
  · by_cases ex : x = u
    · simp only [if_pos ex, Value.ownBlock] at e
      simp at e
      subst e
      rcases hat4 with h | h
      · exact .inl (fr u g hu h)
      · right; omega
    · simp only [if_neg ex] at e
      exact .inl (fr x b hx e)

set_option maxHeartbeats 4000000 in
theorem add_any (w : World) (F : Nat → Prop) (gb m : Nat) (succ : Nat → List Nat) (u v : Nat) (h : GraphRep w F gb m succ) (hm : m ≤ 65536) (hu : u < m) (hv : v < m) (hl : (succ u).length ≤ 65536) :
    Calls Try.prog 36 #[.pointer (some ⟨gb, 0, none⟩), .int .i64 u, .int .i64 v] w fun e w' => e = .returned (.tuple #[]) ∧ Turned F w w' ∧ GraphRep w' (fun b => F b ∨ w.heap.size ≤ b) gb m (addE succ u v) := by
  have HG : Hid (GraphRep w F gb m succ) := h
  obtain ⟨ob, eb, G, M, hgb, hrow, hown, hinj, hmap, hM, fg, fo, fe, fr⟩ := h
  obtain ⟨lk, hkey⟩ := key83 u v (by omega) (by omega)
  have hml := hmap.lt
  have c0 : w.cell? ⟨gb, 0, none⟩ = some (.slice (some ⟨ob, 0, none⟩) m m) := by rw [Lib.cell_of_heap hgb]; rfl
  have c1 : w.cell? ⟨gb, 1, none⟩ = some (.map (some eb)) := by rw [Lib.cell_of_heap hgb]; rfl
  have hgl : gb < w.heap.size := (Array.getElem?_eq_some_iff.1 hgb).1
  have look : ∀ w' : World, w'.heap[eb]? = w.heap[eb]? → (Instr.lookup 55 (.map (some eb)) (.agg #[.int .i64 u, .int .i64 v]) true).run Try.prog w' = .ok (.tuple #[.agg #[], .bool (decide (v ∈ succ u))]) w' := by
    intro w' e
    have := (hmap.of_block e).look law83 Try.underlying55 (zero84 w') hkey true
    rw [hM u v hu hv] at this
    rw [show Value.agg #[.int .i64 u, .int .i64 v] = arcV u v from rfl, this]
    by_cases hmem : v ∈ succ u <;> simp [hmem]
  have l1 := look (w.alloc (.cells #[.int .i64 u, .int .i64 v] 83)).drew (Below.heap_alloc _ _ _ hml)
  have l2 := look ((w.alloc (.cells #[.int .i64 u, .int .i64 v] 83)).alloc (.cells #[] 84)).drew ((Below.heap_alloc _ _ _ (by simp; omega)).trans (Below.heap_alloc _ _ _ hml))
  clear look
  have hW2 : ∀ b, b < w.heap.size → ((w.alloc (.cells #[.int .i64 u, .int .i64 v] 83)).alloc (.cells #[] 84)).heap[b]? = w.heap[b]? := fun b hb => (Below.heap_alloc _ _ _ (by simp; omega)).trans (Below.heap_alloc _ _ _ hb)
  by_cases hmem : v ∈ succ u
  · have hd : decide (v ∈ succ u) = true := by simpa using hmem
    rw [hd] at l1 l2
    have hadd : addE succ u v = succ := by unfold addE; rw [if_pos hmem]
    rw [hadd]
    go_enter Try.func36, Try.ntmps36
    go_wp2
    go_region
    all_goals (
      go_wp2
      refine bodyPost_ret (results_none rfl _ _ _) rfl ?_
      exact ⟨rfl, ⟨rfl, rfl, rfl, by simp [World.drew]; omega, fun b hb _ => hW2 b hb⟩, HG.out.same (fun b hb _ => hW2 b hb) (fun b h => .inl h)⟩)
  · have hd : decide (v ∈ succ u) = false := by simpa using hmem
    rw [hd] at l1 l2
    obtain ⟨ocs, hob⟩ := rowIs_block hrow
    have hol := hrow.lt
    -- the store into the set of edges
    obtain ⟨w3, M3, e3, hmap3, hg3, hs3, hM3, hM3'⟩ := (hmap.of_block (w' := ((w.alloc (.cells #[.int .i64 u, .int .i64 v] 83)).alloc (.cells #[] 84)).drew.drew) (hW2 eb hml)).put law83 Try.underlying55 (.agg #[]) hkey
    have e3' : (Instr.mapUpdate 55 (.map (some eb)) (.agg #[.int .i64 u, .int .i64 v]) (.agg #[])).run Try.prog (((w.alloc (.cells #[.int .i64 u, .int .i64 v] 83)).alloc (.cells #[] 84)).drew.drew) = .ok () w3 := e3
    have hsz3 : w3.heap.size = w.heap.size + 1 + 1 := by rw [hs3]; simp [World.drew]
    have hb3 : ∀ b, b < w.heap.size → b ≠ eb → w3.heap[b]? = w.heap[b]? := fun b hb hne => (hg3.block b (by simp [World.drew]; omega) (by simpa using hne)).trans (hW2 b hb)
    have hobeb : ob ≠ eb := notMap_of_cells hmap hob
    have hgbeb : gb ≠ eb := notMap_of_cells hmap hgb
    have hueb : ∀ b, (G u).ownBlock = some b → b ≠ eb := fun b e he => ownsRow_notMap (hown u hu) hmap (by rw [e, he])
    have hrow3 : w3.rowIs ob 42 m G := hrow.of_block (hb3 ob hol hobeb)
    have d0 : w3.cell? ⟨gb, 0, none⟩ = some (.slice (some ⟨ob, 0, none⟩) m m) := (World.cell?_of_block (w := w) (a := ⟨gb, 0, none⟩) (hb3 gb hgl hgbeb)).trans c0
    have d2 : w3.cell? ⟨ob, u, none⟩ = some (G u) := hrow3.cell hu
    obtain ⟨i0, hi, hz0, hz1, hz2⟩ := info_parts Try.info3
    have hown3 : w3.ownsRow 0 3 1 (G u) (succ u).length (ints (succ u)) := ownsRow_same (hown u hu) (fun b e => hb3 b ((hown u hu).lt b e).2 (hueb b e))
    have gl3 : gb < w3.heap.size := by omega
    have ol3 : ob < w3.heap.size := by omega
    have z3 : w3.frozen? ⟨ob, u, none⟩ = false := hrow3.frozen u
    have hugb : ¬ (some gb = (G u).ownBlock) := fun e => ownsRow_far (hown u hu) (by decide) hgb e.symm
    have huob : ¬ (some ob = (G u).ownBlock) := fun e => ownsRow_far (hown u hu) (by decide) hob e.symm
    have hui : (u : Int) < m := by omega
    have hb3gb : w3.heap[gb]? = some (.cells #[.slice (some ⟨ob, 0, none⟩) m m, .map (some eb)] 57 (0, 0)) := (hb3 gb hgl hgbeb).trans hgb
    have FIN : Hid (∀ g cap w4, w4.ownsRow 0 3 1 (.slice (some ⟨g, 0, none⟩) ((succ u).length + 1) cap) ((succ u).length + 1) (ints (succ u) ++ [.int .i64 v]) → (w3.alloc (.cells #[.int .i64 v] 3)).drew.grownBy w4 (G u).ownBlock → ((G u).ownBlock = some g ∨ w3.heap.size ≤ g) →
        Turned F w (w4.setCell ⟨ob, u, none⟩ (.slice (some ⟨g, 0, none⟩) ((succ u).length + 1) cap)) ∧ GraphRep (w4.setCell ⟨ob, u, none⟩ (.slice (some ⟨g, 0, none⟩) ((succ u).length + 1) cap)) (fun b => F b ∨ w.heap.size ≤ b) gb m (addE succ u v)) :=
      fun g cap w4 a1 a2 a3 => graph_added hgb hrow hown hinj hmap hM fg fo fe fr hu hmem ⟨hg3.os, hg3.tape, hg3.output⟩ (by omega) hb3 hmap3 hM3 hM3' a1 a2 a3
    have n1 : ¬ gb = w.heap.size + 1 + 1 := by omega
    have n2 : ¬ w.heap.size + 1 + 1 = gb := by omega
    have n3 : ¬ ob = w.heap.size + 1 + 1 := by omega
    have n4 : ¬ w.heap.size + 1 + 1 = ob := by omega
    have x1 : (w3.alloc (.cells #[.int .i64 v] 3)).cell? ⟨gb, 0, none⟩ = some (.slice (some ⟨ob, 0, none⟩) m m) := by rw [World.cell?_alloc_lt _ _ _ gl3]; exact d0
    have x2 : (w3.alloc (.cells #[.int .i64 v] 3)).cell? ⟨ob, u, none⟩ = some (G u) := by rw [World.cell?_alloc_lt _ _ _ ol3]; exact d2
    have x3 : (w3.alloc (.cells #[.int .i64 v] 3)).frozen? ⟨ob, u, none⟩ = false := by rw [World.frozen?_of_block (w := w3) (a := ⟨ob, u, none⟩) (Below.heap_alloc _ _ _ ol3)]; exact z3
    have H4 : Hid ((w3.alloc (.cells #[.int .i64 v] 3)).drew.ownsRow 0 3 1 (G u) (succ u).length (ints (succ u))) := hown3.alloc _
    have H5 : Hid (∀ j x, [Value.int .i64 v][j]? = some x → (w3.alloc (.cells #[.int .i64 v] 3)).drew.cell? ((⟨w.heap.size + 1 + 1, 0, none⟩ : Addr).add j) = some x) := by rw [← hsz3]; exact cell_one_new w3 (.int .i64 v) 3
    have H6 : Hid (ob < (w3.alloc (.cells #[.int .i64 v] 3)).drew.heap.size) := by show ob < (w3.alloc _).heap.size; simp; omega
    have H7 : Hid (gb < (w3.alloc (.cells #[.int .i64 v] 3)).drew.heap.size) := by show gb < (w3.alloc _).heap.size; simp; omega
    have H1 : Hid (w.rowIs ob 42 m G) := hrow
    have H2 : Hid (∀ u, u < m → w.ownsRow 0 3 1 (G u) (succ u).length (ints (succ u))) := hown
    have H3 : Hid (MapIs Try.prog 83 w3 eb M3) := hmap3
    clear hrow hown hinj hmap hM hgb hob hM3 hM3' hmap3 hg3 c0 hown3 hrow3
    go_enter Try.func36, Try.ntmps36
    go_wp2
    go_region
    all_goals (
      go_wp2
      go_region
      all_goals (
        clear l1 l2 e3 e3'
        go_wp2
        go_region_law (refine step_append_lies _ rfl (.tmp 39) (.tmp 41) 42 rfl 0 3 i0 (.int .i64 0) 1 8 Try.underlying42 hi hz0 hz1 hz2 rfl (by decide) (G u) (succ u).length (ints (succ u)) rfl H4.out ⟨w.heap.size + 1 + 1, 0, none⟩ 1 1 [.int .i64 v] rfl rfl H5.out (by intro x hx; simp at hx; subst hx; rfl) (by decide) (by unfold maxLen; omega) (by omega) (Nat.zero_le _) (w.heap.size + 1 + 1 + 1) (by show (w3.alloc _).heap.size = _; simp; omega) ?_; intro g cap w4 hown4 hg4 hat4 hlt4; have k0 : w4.cell? ⟨gb, 0, none⟩ = some (.slice (some ⟨ob, 0, none⟩) m m) := (hg4.cell_far ⟨gb, 0, none⟩ H7.out hugb).trans x1; have k1 : w4.cell? ⟨ob, u, none⟩ = some (G u) := (hg4.cell_far ⟨ob, u, none⟩ H6.out huob).trans x2; have k2 : w4.frozen? ⟨ob, u, none⟩ = false := (hg4.frozen_far ⟨ob, u, none⟩ H6.out huob).trans x3)
        all_goals (
          go_wp2
          go_end0
          exact ⟨rfl, FIN.out g cap w4 hown4 hg4 (hat4.imp id (fun e => by omega))⟩)))

end Go.Proofs.Qxb6600445a
