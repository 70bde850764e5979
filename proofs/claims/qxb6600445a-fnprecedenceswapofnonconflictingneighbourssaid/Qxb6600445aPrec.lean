import Derived.Test.Qxb6600445aRound
import Derived.Deep.DeepCutAuto
import Derived.Deep.LoopGhost
namespace Go.Proofs.Qxb6600445a
open Go.RowKit Go.Maps

theorem zero3 (w : World) : (zeroValue 3).run Try.prog w = .ok (.int .i64 0) w := by kernel_rfl
theorem zero73 (w : World) : (zeroValue 73).run Try.prog w = .ok (.pointer none) w := by kernel_rfl
theorem zero77 (w : World) : (zeroValue 77).run Try.prog w = .ok (.pointer none) w := by kernel_rfl

/-- The operations as they lie: three cells each. -/
def OpsAt (w : World) (a : Option Addr) (n : Nat) (X : Nat → ByteArray) (ops : Nat → Opp) : Prop :=
  n = 0 ∨ ∃ B o, a = some ⟨B, o, none⟩ ∧ ∀ i, i < n → w.cell? ⟨B, o + i * 3, none⟩ = some (.string (X (ops i).t)) ∧ w.cell? ⟨B, o + i * 3 + 1, none⟩ = some (.int .u8 (if (ops i).wr then 2 else 1)) ∧ w.cell? ⟨B, o + i * 3 + 2, none⟩ = some (.string (ops i).s)

/-- Between two rounds. -/
def Rnd (H : Nat) (w0 w : World) (pb mb gb m : Nat) (st : St) : Prop :=
  Kp (fun b => b < H ∨ b = pb) w0 w ∧ ∃ Fg Fs M LI, PR w (fun b => b < H ∨ b = pb) mb gb m st.items st.succ Fg Fs M LI

theorem Rnd.start {w w2 w3 : World} {pb gb m : Nat} (hb2 : Below (w.alloc (.map #[] 0)).heap.size (w.alloc (.map #[] 0)) w2) (hb3 : Below w2.heap.size w2 w3) (hgr : GraphRep w3 (fun b => w2.heap.size ≤ b) gb m (fun _ => [])) (hpb : (w.alloc (.map #[] 0)).heap.size ≤ pb) (hlt : pb < w2.heap.size) (ops : Nat → Opp) :
    Rnd w.heap.size w3 w3 pb w.heap.size gb m (runF ops 0) := by
  have s2 := hb2.size
  have s3 := hb3.size
  simp at s2 hpb
  refine ⟨Kp.refl _ _, ?_⟩
  obtain ⟨ob, eb, G, Mg, hgb, hrow, hown, hinj, hmap, hM, fg, fo, fe, fr⟩ := hgr
  refine ⟨fun b => w2.heap.size ≤ b ∧ b < w3.heap.size, fun _ _ => False, fun _ => none, fun _ => 0, ⟨ob, eb, G, Mg, hgb, hrow, hown, hinj, hmap, hM, ⟨fg, some_lt hgb⟩, ⟨fo, hrow.lt⟩, ⟨fe, hmap.lt⟩, fun u b hu e => ⟨fr u b hu e, ((hown u hu).lt b e).2⟩⟩,
    ⟨?_, fun s => rfl, fun s it e => (by cases e), fun _ _ _ e => e.elim, fun _ _ e => e.elim⟩, fun b hF => ⟨hF.2, by omega⟩, fun _ _ e => e.elim, fun b hF => ?_⟩
  · refine (MapIs.made Try.prog 9 w).of_block ?_
    rw [hb3.block _ (by omega), hb2.block _ (by simp)]
  · refine ⟨?_, fun hg => ?_, ?_, fun _ e => e⟩
    · rcases hF with h | h <;> omega
    · rcases hF with h | h <;> omega
    · rcases hF with h | h <;> omega

theorem Rnd.below {H : Nat} {w0 w : World} {pb mb gb m : Nat} {st : St} (h : Rnd H w0 w pb mb gb m st) : Below H w0 w := ⟨h.1.os, h.1.tape, h.1.output, h.1.size, fun b hb => h.1.block b (.inl hb)⟩

theorem Rnd.out {H : Nat} {w0 w : World} {pb mb gb m : Nat} {st : St} (h : Rnd H w0 w pb mb gb m st) : ∃ F, GraphRep w F gb m st.succ ∧ ∀ b, F b → H ≤ b := by
  obtain ⟨_, Fg, Fs, M, LI, hp⟩ := h
  refine ⟨Fg, hp.graph, fun b hF => ?_⟩
  by_cases hlt : b < H
  · exact ((hp.safe b (.inl hlt)).2.1 hF).elim
  · omega

/-- The round's operation is boxed. -/
theorem Rnd.box {H : Nat} {w0 w : World} {pb mb gb m : Nat} {st : St} (h : Rnd H w0 w pb mb gb m st) (o : Obj) :
    Kp (fun b => b < H ∨ b = pb) w0 (w.alloc o) ∧ ∃ Fg Fs M LI, PR (w.alloc o) (fun b => (b < H ∨ b = pb) ∨ b = w.heap.size) mb gb m st.items st.succ Fg Fs M LI := by
  obtain ⟨hk, Fg, Fs, M, LI, hp⟩ := h
  have hb : ∀ b, b < w.heap.size → (w.alloc o).heap[b]? = w.heap[b]? := fun b hb => Below.heap_alloc _ _ _ hb
  refine ⟨hk.trans ⟨rfl, rfl, rfl, by simp, fun b hF => hb b (hp.safe b hF).1⟩, Fg, Fs, M, LI, hp.same (by simp) hb (fun b hF => ?_)⟩
  rcases hF with h | h
  · exact .inl h
  · right; simp; omega

/-- A row's tail, cell by cell. -/
theorem tail_cells {w : World} {g n cap d : Nat} {fl : List Nat} (h : w.ownsRow 0 3 1 (.slice (some ⟨g, 0, none⟩) n cap) fl.length (ints fl)) : SlV w (some ⟨g, d, none⟩) (fl.length - d) (fun i => .int .i64 (fl.getD (d + i) 0 : Nat)) := by
  refine .inr ⟨g, d, rfl, fun i hi => ?_⟩
  rcases h.2 with ⟨h1, _⟩ | ⟨g', cap', cur, h1, _, h3, h4, h5, h6, h7⟩
  · cases h1
  · simp only [Value.slice.injEq, Option.some.injEq, Addr.mk.injEq, and_true] at h1
    obtain ⟨rfl, rfl, rfl⟩ := h1
    rw [Lib.cell_of_heap h3]
    have e1 : cur.toList[d + i]? = (ints fl)[d + i]? := by
      rw [← h7, List.getElem?_take]
      rw [if_pos (by omega)]
    have e2 : cur[d + i]? = (ints fl)[d + i]? := by rw [← e1]; simp
    rw [e2]
    simp only [ints, List.getElem?_map, List.getD_eq_getElem?_getD]
    rw [List.getElem?_eq_getElem (by omega)]
    rfl

/-- The round's end. -/
theorem Kp.close {H : Nat} {w0 w1 w : World} {pb mb gb m x : Nat} {st st' : St} {succ : Nat → List Nat} {s : ByteArray} {it : Itm} {li : Nat} {W A : Value} {lm : Nat} {MB : Value → Option Value} {LA : Nat → Nat} (h0 : Kp (fun b => b < H ∨ b = pb) w0 w1) (h1 : Kp (fun b => (b < H ∨ b = pb) ∨ b = x) w1 w)
    (h : Mid w (fun b => (b < H ∨ b = pb) ∨ b = x) mb gb m st.items succ s it li W A lm MB LA) (e : st' = ⟨setItem st.items s it, succ⟩) : Rnd H w0 w pb mb gb m st' := by
  subst e
  exact ⟨h0.trans ⟨h1.os, h1.tape, h1.output, h1.size, fun b hb => h1.block b (.inl hb)⟩, h.done (fun b hb => .inl hb)⟩

theorem setAcc_own (it : Itm) (t : Nat) (a : Acc) : (setAcc it t a).acc t = some a := by simp [setAcc]
theorem setAcc_set (it : Itm) (t : Nat) (a b : Acc) : setAcc (setAcc it t a) t b = setAcc it t b := by
  unfold setAcc
  congr 1
  funext x
  by_cases e : x = t <;> simp [e]

/-- What precedence leaves. -/
def Preced (w w' : World) (e : Ending) (m : Nat) (succ : Nat → List Nat) : Prop :=
  ∃ gb F, e = .returned (.pointer (some ⟨gb, 0, none⟩)) ∧ Below w.heap.size w w' ∧ GraphRep w' F gb m succ ∧ ∀ b, F b → w.heap.size ≤ b

set_option maxHeartbeats 4000000 in
set_option maxRecDepth 8000 in
theorem prec_any (a : Option Addr) (n c : Nat) (ax : Option Addr) (m cx : Nat) (X : Nat → ByteArray) (ops : Nat → Opp) (w : World) (h : OpsAt w a n X ops) (hx : SlV w ax m (fun i => .string (X i))) (hn : n ≤ 4096) (hm : m ≤ 256)
    (hd : ∀ i j, i < m → j < m → X i = X j → i = j) (hsz : ∀ i, i < m → (X i).size ≤ 1048576) (ht : ∀ i, i < n → (ops i).t < m) (hs : ∀ i, i < n → (ops i).s.size ≤ 1048576) :
    Calls Try.prog 32 #[.slice a n c, .slice ax m cx] w fun e w' => Preced w w' e m (runF ops n).succ := by
  have hmm := @run_makeMap Try.prog
  have H0 : Hid (OpsAt w a n X ops) := h
  have H1 : Hid (∀ i j, i < m → j < m → X i = X j → i = j) := hd
  have H2 : Hid (∀ i, i < m → (X i).size ≤ 1048576) := hsz
  have H3 : Hid (SlV w ax m (fun i => .string (X i))) := hx
  have H4 : Hid (∀ i, i < n → (ops i).t < m) := ht
  have H5 : Hid (∀ i, i < n → (ops i).s.size ≤ 1048576) := hs
  clear h hd hsz hx ht hs
  go_enter Try.func32, Try.ntmps32
  go_wp2_with (go_at_call 34; refine (places_any _ _ _ X _ ((H3.out).below ((Below.refl w.heap.size w).alloc (Nat.le_refl _) _) (Nat.le_refl _)) (by omega) H1.out H2.out).mono ?_)
  rintro e w2 ⟨pb, Mp, rfl, hb2, hpb, hmp, hMp⟩
  have H6 : Hid (∀ i, i < m → Mp (.string (X i)) = some (.int .i64 i)) := hMp
  have hplt := hmp.lt
  clear hMp
  go_wp2_with (go_at_call 35; refine (newGraph_any _ _ (by omega)).mono ?_)
  rintro e w3 ⟨gb, rfl, hb3, hgr⟩
  have hmp3 : MapIs Try.prog 44 w3 pb Mp := hmp.of_block (hb3.block pb hplt)
  have hR0 : Hid (Rnd w.heap.size w3 w3 pb w.heap.size gb m (runF ops 0)) := Rnd.start hb2 hb3 hgr hpb hplt ops
  have hBW : Below w.heap.size w w3 := by
    have s2 := hb2.size
    simp at s2
    exact ⟨hb3.os.trans hb2.os, hb3.tape.trans hb2.tape, hb3.output.trans hb2.output, by have := hb3.size; omega, fun b hb => (hb3.block b (by omega)).trans ((hb2.block b (by simp; omega)).trans (Below.heap_alloc _ _ _ hb))⟩
  clear hmp hgr hb2 hb3 hpb hplt
  go_wp2
  go_loopw [25] (fun i wr => ∃ k : Nat, k ≤ n ∧ i = .int .i64 k ∧ Rnd w.heap.size w3 wr pb w.heap.size gb m (runF ops k)) (fun i _ => n - (intOf i).toNat)
  case atStart => exact ⟨0, by omega, rfl, hR0.out⟩
  case round =>
    rename World => wo
    obtain ⟨k, hk, rfl, hR⟩ := hrel
    by_cases hlt : k < n
    · -- the operation's cells
      have hlt' : (k : Int) < n := by omega
      obtain ⟨B, o, rfl, hc⟩ : ∃ B o, a = some ⟨B, o, none⟩ ∧ ∀ i, i < n → w.cell? ⟨B, o + i * 3, none⟩ = some (.string (X (ops i).t)) ∧ w.cell? ⟨B, o + i * 3 + 1, none⟩ = some (.int .u8 (if (ops i).wr then 2 else 1)) ∧ w.cell? ⟨B, o + i * 3 + 2, none⟩ = some (.string (ops i).s) := by
        rcases H0.out with h0 | h0
        · omega
        · exact h0
      obtain ⟨d0, d1, d2⟩ := hc k hlt
      have hB : B < w.heap.size := World.block_lt_of_cell? _ _ d0
      have hBR := hBW.trans hR.below
      have e0 := (hBR.cell (p := ⟨B, o + k * 3, none⟩) hB).trans d0
      have e1 := (hBR.cell (p := ⟨B, o + k * 3 + 1, none⟩) hB).trans d1
      have e2 := (hBR.cell (p := ⟨B, o + k * 3 + 2, none⟩) hB).trans d2
      have htk := H4.out k hlt
      have hsk := H5.out k hlt
      have hRF := round_facts (ops := ops) (k := k) (m := m) (fun i hi => H4.out i (by omega))
      have hLS := (run_len ops k).2
      have hXs := H2.out _ htk
      have hMk := H6.out _ htk
      have hst : stepF (runF ops k) (ops k) = runF ops (k + 1) := rfl
      generalize hob : (ops k) = ob at *
      generalize hstk : (runF ops k) = st at *
      obtain ⟨t, wrb, s⟩ := ob
      dsimp only at *
      -- the box
      obtain ⟨hkp, Fg, Fs, M, LI, hpr⟩ := hR.box (.cells #[.string (X t), .int .u8 (if wrb then 2 else 1), .string s] 47)
      have hmp1 := hmp3.of_block (w' := wo.alloc (.cells #[.string (X t), .int .u8 (if wrb then 2 else 1), .string s] 47)) (hkp.block pb (.inr rfl))
      have l1 := hmp1.look law44 Try.underlying70 (zero3 _) (Go.WideMaps.keyOf_string_mk Try.underlying44 (s := X t) (by unfold maxLen; omega)) false
      have l2 := hpr.items.map.look law9 Try.underlying69 (zero73 _) (Go.WideMaps.keyOf_string_mk Try.underlying9 (s := s) (by unfold maxLen; omega)) false
      simp only [hMk, Option.getD_some, Bool.false_eq_true, if_false] at l1 l2
      have HP : Hid (PR (wo.alloc (.cells #[.string (X t), .int .u8 (if wrb then 2 else 1), .string s] 47)) (fun b => (b < w.heap.size ∨ b = pb) ∨ b = wo.heap.size) w.heap.size gb m st.items st.succ Fg Fs M LI) := hpr
      have HK := hkp
      clear hc d0 d1 d2 hB hBR hpr hmp1 hkp hMk hXs
      generalize hq : (if wrb then (2 : Int) else 1) = q at *
      obtain ⟨x, hx0, hx1⟩ : ∃ x, (M (.string s)).getD (.pointer none) = .pointer x ∧ ((x = none ∧ st.items s = none) ∨ (x = some ⟨LI s, 0, none⟩ ∧ ∃ it, st.items s = some it)) := by
        cases e : st.items s with
        | none => exact ⟨none, by rw [(Mid.make HP.out e hsk).1]; rfl, .inl ⟨rfl, rfl⟩⟩
        | some it => exact ⟨_, by rw [(Mid.old HP.out e).1]; rfl, .inr ⟨rfl, it, rfl⟩⟩
      rw [hx0] at l2
      have HX : Hid ((x = none ∧ st.items s = none) ∨ (x = some ⟨LI s, 0, none⟩ ∧ ∃ it, st.items s = some it)) := hx1
      clear hx1 hx0
      go_upto_if 38 with fail
      go_cut [11] (fun v wc => ∃ li W A lm MB LA, v = .pointer (some ⟨li, 0, none⟩) ∧ Mid wc (fun b => (b < w.heap.size ∨ b = pb) ∨ b = wo.heap.size) w.heap.size gb m st.items st.succ s (itemOf st s) li W A lm MB LA ∧ Kp (fun b => (b < w.heap.size ∨ b = pb) ∨ b = wo.heap.size) (wo.alloc (.cells #[.string (X t), .int .u8 q, .string s] 47)) wc)
      case first =>
        rcases HX.out with ⟨rfl, he⟩ | ⟨rfl, it, he⟩
        · obtain ⟨_, w5, e5, hk5, W, A, lm, MB, LA, hmid⟩ := Mid.make HP.out he hsk
          have hi5 : itemOf st s = ⟨[], [], fun _ => none⟩ := by unfold itemOf; rw [he]; rfl
          have hsz5 : (wo.alloc (.cells #[.string (X t), .int .u8 q, .string s] 47)).heap.size = wo.heap.size + 1 := by simp
          rw [hsz5] at e5 hmid
          rw [← hi5] at hmid
          have HM : Hid (Mid w5 (fun b => (b < w.heap.size ∨ b = pb) ∨ b = wo.heap.size) w.heap.size gb m st.items st.succ s (itemOf st s) (wo.heap.size + 1 + 1) W A lm MB LA) := hmid
          clear hmid hRF hi5
          go_wp2
          go_meet
          case rel => exact ⟨wo.heap.size + 1 + 1, W, A, lm, MB, LA, rfl, HM.out, hk5⟩
        · obtain ⟨_, W, A, lm, MB, LA, hmid⟩ := Mid.old HP.out he
          have hi5 : itemOf st s = it := by unfold itemOf; rw [he]; rfl
          rw [← hi5] at hmid
          have HM : Hid (Mid (wo.alloc (.cells #[.string (X t), .int .u8 q, .string s] 47)) (fun b => (b < w.heap.size ∨ b = pb) ∨ b = wo.heap.size) w.heap.size gb m st.items st.succ s (itemOf st s) (LI s) W A lm MB LA) := hmid
          clear hmid hRF hi5
          go_wp2
          go_meet
          case rel => exact ⟨LI s, W, A, lm, MB, LA, rfl, HM.out, Kp.refl _ _⟩
      case rest =>
        obtain ⟨li, W, A, lm, MB, LA, rfl, hmid, hk1⟩ := hcut
        obtain ⟨Fp, hi⟩ := hmid.at_
        have hxb : wc.heap[wo.heap.size]? = some (.cells #[.string (X t), .int .u8 q, .string s] 47 (0, 0)) := (hk1.block _ (.inr rfl)).trans (heap_alloc_new _ _)
        have c2 : wc.cell? ⟨li, 2, none⟩ = some (.map (some lm)) := by rw [Lib.cell_of_heap hi.blk]; rfl
        have l3 := hi.map.look law3 Try.underlying74 (zero77 _) (x := .int .i64 t) (keyOf_int_mk Try.underlying3 (WalkArith.wf_i64 (by omega))) false
        obtain ⟨y, hy0, hy1⟩ : ∃ y, (MB (.int .i64 t)).getD (.pointer none) = .pointer y ∧ ((y = none ∧ (itemOf st s).acc t = none) ∨ (y = some ⟨LA t, 0, none⟩ ∧ ∃ a, (itemOf st s).acc t = some a)) := by
          rw [hi.at_]
          cases e : (itemOf st s).acc t with
          | none => exact ⟨none, rfl, .inl ⟨rfl, rfl⟩⟩
          | some a => exact ⟨_, rfl, .inr ⟨rfl, a, rfl⟩⟩
        simp only [hy0, Bool.false_eq_true, if_false] at l3
        have HX2 : Hid ((y = none ∧ (itemOf st s).acc t = none) ∨ (y = some ⟨LA t, 0, none⟩ ∧ ∃ a, (itemOf st s).acc t = some a)) := hy1
        have HM : Hid (Mid wc (fun b => (b < w.heap.size ∨ b = pb) ∨ b = wo.heap.size) w.heap.size gb m st.items st.succ s (itemOf st s) li W A lm MB LA) := hmid
        have HRF : Hid ((∀ (u : Nat), u ∈ fromOf (withAcc (itemOf st s) t) wrb → u < m) ∧ drawnOf (accOf (withAcc (itemOf st s) t) t) wrb ≤ (fromOf (withAcc (itemOf st s) t) wrb).length ∧ (withAcc (itemOf st s) t).wr.length ≤ k ∧ (withAcc (itemOf st s) t).ac.length ≤ k + 1) := hRF
        have HLS : Hid (∀ (u : Nat), (st.succ u).length ≤ k) := hLS
        clear hmid hi hy0 hy1 l1 l2 e0 e1 e2 HP HX hRF hLS
        go_upto_if 53 with fail
        go_cut [12] (fun v wd => ∃ A' MB' LA', v = .pointer (some ⟨LA' t, 0, none⟩) ∧ Mid wd (fun b => (b < w.heap.size ∨ b = pb) ∨ b = wo.heap.size) w.heap.size gb m st.items st.succ s (withAcc (itemOf st s) t) li W A' lm MB' LA' ∧ Kp (fun b => (b < w.heap.size ∨ b = pb) ∨ b = wo.heap.size) (wo.alloc (.cells #[.string (X t), .int .u8 q, .string s] 47)) wd)
        case first =>
          rcases HX2.out with ⟨rfl, he⟩ | ⟨rfl, a, he⟩
          · obtain ⟨_, w6, e6, hk6, hs6, MB6, LA6, hm6, hla6⟩ := HM.out.addAcc (t := t) (by omega) he
            obtain ⟨Fp6, hi6⟩ := hm6.at_
            have c1 : w6.cell? ⟨li, 1, none⟩ = some A := by rw [Lib.cell_of_heap hi6.blk]; rfl
            have c26 : (wc.alloc (.cells #[.int .i64 0, .int .i64 0, .bool false] 80)).cell? ⟨li, 2, none⟩ = some (.map (some lm)) := by rw [World.cell?_alloc_lt _ _ _ (World.block_lt_of_cell? _ _ c2)]; exact c2
            have hwA : withAcc (itemOf st s) t = ⟨(itemOf st s).wr, (itemOf st s).ac ++ [t], fun x => if x = t then some ⟨0, 0, false⟩ else (itemOf st s).acc x⟩ := by unfold withAcc; rw [he]; rfl
            have hacl : (itemOf st s).ac.length ≤ 65536 := by
              have := HRF.out.2.2.2
              rw [hwA] at this
              simp at this
              omega
            have hli6 : li < w6.heap.size := some_lt hi6.blk
            have hfz : w6.frozen? ⟨li, 1, none⟩ = false := by simp [World.frozen?, hi6.blk]
            have hne : ¬ (some li = A.ownBlock) := fun e => ownsRow_far hi6.ra (by decide) hi6.blk e.symm
            have H4r : Hid ((w6.alloc (.cells #[.int .i64 t] 3)).ownsRow 0 3 1 A (itemOf st s).ac.length (ints (itemOf st s).ac)) := hi6.ra.alloc _
            have H6l : Hid (li < (w6.alloc (.cells #[.int .i64 t] 3)).heap.size) := by show li < (w6.alloc _).heap.size; simp; omega
            have x1 : (w6.alloc (.cells #[.int .i64 t] 3)).cell? ⟨li, 1, none⟩ = some A := by rw [World.cell?_alloc_lt _ _ _ hli6]; exact c1
            have x3 : (w6.alloc (.cells #[.int .i64 t] 3)).frozen? ⟨li, 1, none⟩ = false := by rw [World.frozen?_of_block (w := w6) (a := ⟨li, 1, none⟩) (Below.heap_alloc _ _ _ hli6)]; exact hfz
            have FIN : Hid (∀ g cap w4, w4.ownsRow 0 3 1 (.slice (some ⟨g, 0, none⟩) ((itemOf st s).ac.length + 1) cap) ((itemOf st s).ac.length + 1) (ints (itemOf st s).ac ++ [.int .i64 t]) → (w6.alloc (.cells #[.int .i64 t] 3)).grownBy w4 A.ownBlock → (A.ownBlock = some g ∨ w6.heap.size ≤ g) →
                Mid (w4.setCell ⟨li, 1, none⟩ (.slice (some ⟨g, 0, none⟩) ((itemOf st s).ac.length + 1) cap)) (fun b => (b < w.heap.size ∨ b = pb) ∨ b = wo.heap.size) w.heap.size gb m st.items st.succ s (withAcc (itemOf st s) t) li W (.slice (some ⟨g, 0, none⟩) ((itemOf st s).ac.length + 1) cap) lm MB6 LA6 ∧
                Kp (fun b => (b < w.heap.size ∨ b = pb) ∨ b = wo.heap.size) (wo.alloc (.cells #[.string (X t), .int .u8 q, .string s] 47)) (w4.setCell ⟨li, 1, none⟩ (.slice (some ⟨g, 0, none⟩) ((itemOf st s).ac.length + 1) cap))) := by
              intro g cap w4 a1 a2 a3
              obtain ⟨r1, r2⟩ := hm6.appA (t := t) a1 a2 a3
              rw [hwA]
              exact ⟨r1, (hk1.trans hk6).trans r2⟩
            obtain ⟨i0, hii, hz0, hz1, hz2⟩ := info_parts Try.info3
            clear hm6 hi6 hk6 hk1 HM HX2 HRF hwA hs6
            have hst1 : Hid (stepF st ⟨t, wrb, s⟩ = runF ops (k + 1)) := hst
            clear hst hob hstk hq hxb hlt hlt'
            generalize hitm : itemOf st s = itm at *
            go_wp2_with (at_builtin; refine wpList_append_lies _ rfl (.tmp 65) (.tmp 67) 42 rfl 0 3 i0 (.int .i64 0) 1 8 Try.underlying42 hii hz0 hz1 hz2 rfl (by decide) A itm.ac.length (ints itm.ac) rfl H4r.out ⟨w6.heap.size, 0, none⟩ 1 1 [.int .i64 t] rfl rfl (cell_one_new w6 (.int .i64 t) 3) (by intro x hx; simp at hx; subst hx; rfl) (by decide) (by unfold maxLen; omega) (by omega) (Nat.zero_le _) (w6.heap.size + 1) (by simp) ?_)
            intro g cap w7 hown7 hg7 hat7 hlt7
            have k0 : w7.cell? ⟨li, 1, none⟩ = some A := (hg7.cell_far ⟨li, 1, none⟩ H6l.out hne).trans x1
            have k2 : w7.frozen? ⟨li, 1, none⟩ = false := (hg7.frozen_far ⟨li, 1, none⟩ H6l.out hne).trans x3
            have HO : Hid (Mid (w7.setCell ⟨li, 1, none⟩ (.slice (some ⟨g, 0, none⟩) (itm.ac.length + 1) cap)) (fun b => (b < w.heap.size ∨ b = pb) ∨ b = wo.heap.size) w.heap.size gb m st.items st.succ s (withAcc itm t) li W (.slice (some ⟨g, 0, none⟩) (itm.ac.length + 1) cap) lm MB6 LA6 ∧
                Kp (fun b => (b < w.heap.size ∨ b = pb) ∨ b = wo.heap.size) (wo.alloc (.cells #[.string (X t), .int .u8 q, .string s] 47)) (w7.setCell ⟨li, 1, none⟩ (.slice (some ⟨g, 0, none⟩) (itm.ac.length + 1) cap))) := FIN.out g cap w7 hown7 hg7 (hat7.imp id (fun e => by omega))
            have hla6' : Hid (LA6 t = wc.heap.size) := hla6
            clear FIN hown7 hg7 hat7 H4r x1 x3 hla6
            go_wp2
            go_meet
            case rel => exact ⟨_, MB6, LA6, by rw [hla6'.out], HO.out.1, HO.out.2⟩
          · have hwA : withAcc (itemOf st s) t = itemOf st s := by unfold withAcc; rw [he]; rfl
            have HO : Hid (Mid wc (fun b => (b < w.heap.size ∨ b = pb) ∨ b = wo.heap.size) w.heap.size gb m st.items st.succ s (withAcc (itemOf st s) t) li W A lm MB LA ∧ Kp (fun b => (b < w.heap.size ∨ b = pb) ∨ b = wo.heap.size) (wo.alloc (.cells #[.string (X t), .int .u8 q, .string s] 47)) wc) := ⟨by rw [hwA]; exact HM.out, hk1⟩
            clear HM HX2 HRF hwA hk1 he hst hob hstk hq hxb hlt hlt'
            go_wp2
            go_meet
            case rel => exact ⟨A, MB, LA, rfl, HO.out.1, HO.out.2⟩
        case rest =>
          obtain ⟨A5, MB5, LA5, rfl, hmid, hk5⟩ := hcut
          clear hk1 HM HX2 l3 c2 hxb
          obtain ⟨Fp5, hi⟩ := hmid.at_
          have hacc := withAcc_acc (itemOf st s) t
          have hRF := HRF.out
          have hst' : (runF ops (k + 1)) = ⟨setItem st.items s (itemF (itemOf st s) ⟨t, wrb, s⟩), drawE st.succ t ((fromOf (withAcc (itemOf st s) t) wrb).drop (drawnOf (accOf (withAcc (itemOf st s) t) t) wrb))⟩ := hst.symm
          have HIF : Hid (itemF (itemOf st s) ⟨t, wrb, s⟩ = if wrb && !(setDrawn (accOf (withAcc (itemOf st s) t) t) wrb (fromOf (withAcc (itemOf st s) t) wrb).length).wrote then setWrote (withAcc (itemOf st s) t) t (setDrawn (accOf (withAcc (itemOf st s) t) t) wrb (fromOf (withAcc (itemOf st s) t) wrb).length) else setAcc (withAcc (itemOf st s) t) t (setDrawn (accOf (withAcc (itemOf st s) t) t) wrb (fromOf (withAcc (itemOf st s) t) wrb).length)) := rfl
          have HST : Hid (runF ops (k + 1) = ⟨setItem st.items s (itemF (itemOf st s) ⟨t, wrb, s⟩), drawE st.succ t ((fromOf (withAcc (itemOf st s) t) wrb).drop (drawnOf (accOf (withAcc (itemOf st s) t) t) wrb))⟩) := hst'
          clear hst hst' HRF
          generalize itemF (itemOf st s) ⟨t, wrb, s⟩ = itF at HIF HST
          generalize hitd : withAcc (itemOf st s) t = it at *
          generalize hac : accOf it t = ac at *
          have hxb : wc.heap[wo.heap.size]? = some (.cells #[.string (X t), .int .u8 q, .string s] 47 (0, 0)) := (hk5.block _ (.inr rfl)).trans (heap_alloc_new _ _)
          have b1 : wc.cell? ⟨wo.heap.size, 1, none⟩ = some (.int .u8 q) := by rw [Lib.cell_of_heap hxb]; rfl
          have c0 : wc.cell? ⟨li, 0, none⟩ = some W := by rw [Lib.cell_of_heap hi.blk]; rfl
          have c1 : wc.cell? ⟨li, 1, none⟩ = some A5 := by rw [Lib.cell_of_heap hi.blk]; rfl
          have a0 : wc.cell? ⟨LA5 t, 0, none⟩ = some (.int .i64 ac.d0) := by rw [Lib.cell_of_heap (hi.acc t ac hacc)]; rfl
          have a1 : wc.cell? ⟨LA5 t, 1, none⟩ = some (.int .i64 ac.d1) := by rw [Lib.cell_of_heap (hi.acc t ac hacc)]; rfl
          have HMD : Hid (Mid wc (fun b => (b < w.heap.size ∨ b = pb) ∨ b = wo.heap.size) w.heap.size gb m st.items st.succ s it li W A5 lm MB5 LA5) := hmid
          have HHI : Hid (ItemAt wc Fp5 li it W A5 lm MB5 LA5) := hi
          have HAC : Hid (it.acc t = some ac) := hacc
          have HRF : Hid ((∀ (u : Nat), u ∈ fromOf it wrb → u < m) ∧ drawnOf ac wrb ≤ (fromOf it wrb).length ∧ it.wr.length ≤ k ∧ it.ac.length ≤ k + 1) := hRF
          clear hmid hi hacc hRF hxb hob hstk hitd hac
          go_upto_if 77 with fail
          go_cut [13, 14] (fun v v2 wd => wd = wc ∧ v = (if wrb then A5 else W) ∧ v2 = .int .i64 (if wrb then 1 else 0))
          case first =>
            cases wrb with
            | true =>
              obtain rfl : q = 2 := by simpa using hq.symm
              go_wp2
              go_meet
              case rel => exact ⟨rfl, by simp, by simp⟩
            | false =>
              obtain rfl : q = 1 := by simpa using hq.symm
              go_wp2
              go_meet
              case rel => exact ⟨rfl, by simp, by simp⟩
          case rest =>
            obtain ⟨rfl, rfl, rfl⟩ := hcut
            obtain ⟨Vf, fl, hVf, hfl, hrow⟩ : ∃ Vf fl, (if wrb then A5 else W) = Vf ∧ fromOf it wrb = fl ∧ ∀ wz Fz MBz LAz itz, ItemAt wz Fz li itz W A5 lm MBz LAz → itz.wr = it.wr → itz.ac = it.ac → wz.ownsRow 0 3 1 Vf fl.length (ints fl) := by
              refine ⟨_, _, rfl, rfl, fun wz Fz MBz LAz itz hz h1 h2 => ?_⟩
              cases wrb with
              | true => simp only [fromOf, if_true]; rw [← h2]; exact hz.ra
              | false => simp only [fromOf, Bool.false_eq_true, if_false]; rw [← h1]; exact hz.rw_
            have hown := hrow _ _ _ _ _ HHI.out rfl rfl
            have HROW : Hid (∀ wz Fz MBz LAz itz, ItemAt wz Fz li itz W A5 lm MBz LAz → itz.wr = it.wr → itz.ac = it.ac → wz.ownsRow 0 3 1 Vf fl.length (ints fl)) := hrow
            have hRF := HRF.out
            rw [hfl] at hRF HIF HST
            obtain ⟨d, hd⟩ : ∃ d, drawnOf ac wrb = d := ⟨_, rfl⟩
            rw [hd] at hRF HST
            obtain ⟨hfm, hdl, hwl, hal⟩ := hRF
            have hfl5 : fl.length ≤ 65536 := by
              rw [← hfl]
              unfold fromOf
              split <;> omega
            have HFM : Hid (∀ u, u ∈ fl → u < m) := hfm
            have hdlI : (d : Int) ≤ fl.length := by omega
            rw [hVf]
            obtain ⟨jj, hjj⟩ : ∃ jj : Int, (if wrb then (1 : Int) else 0) = jj := ⟨_, rfl⟩
            rw [hjj]
            have HJ : Hid ((if wrb then (1 : Int) else 0) = jj) := hjj
            have HQ : Hid ((if wrb then (2 : Int) else 1) = q) := hq
            clear hjj hq
            have hjd : wc.cell? ⟨LA5 t, if wrb then 1 else 0, none⟩ = some (.int .i64 d) := by
              rw [← hd]
              cases wrb with
              | true => simpa [drawnOf] using a1
              | false => simpa [drawnOf] using a0
            have HD : Hid (drawnOf ac wrb = d) := hd
            have HFL : Hid (fromOf it wrb = fl) := hfl
            have HVF : Hid ((if wrb then A5 else W) = Vf) := hVf
            clear hrow hfm HRF hd hfl hVf HHI a0 a1
            go_upto_region 20 with fail
            go_cut [89, 90, 91] (fun v v1 v2 wd => wd = wc ∧ v2 = .int .i64 0 ∧ v1 = .int .i64 ((fl.length - d : Nat) : Int) ∧ ∃ A2 c2, v = .slice A2 (fl.length - d) c2 ∧ ∀ wz, wz.ownsRow 0 3 1 Vf fl.length (ints fl) → SlV wz A2 (fl.length - d) (fun i => .int .i64 (fl.getD (d + i) 0 : Nat)))
            case first =>
              rcases hown.2 with ⟨rfl, hz0⟩ | ⟨g, cap, cur, rfl, _, _, hcap, hcap2, _⟩
              · have hd0 : d = 0 := by omega
                subst hd0
                clear hown
                have hfl0 : fl = [] := List.length_eq_zero_iff.1 hz0
                subst hfl0
                cases wrb with
                | true =>
                  obtain rfl : jj = 1 := by simpa using HJ.out.symm
                  have hj1 : wc.cell? ⟨LA5 t, 1, none⟩ = some (.int .i64 0) := by simpa using hjd
                  clear hjd
                  go_wp2
                  go_meet
                  case rel => exact ⟨rfl, rfl, rfl, none, 0, rfl, fun wz _ => .inl rfl⟩
                | false =>
                  obtain rfl : jj = 0 := by simpa using HJ.out.symm
                  have hj1 : wc.cell? ⟨LA5 t, 0, none⟩ = some (.int .i64 0) := by simpa using hjd
                  clear hjd
                  go_wp2
                  go_meet
                  case rel => exact ⟨rfl, rfl, rfl, none, 0, rfl, fun wz _ => .inl rfl⟩
              · clear hown
                have hcapI : (d : Int) ≤ cap := by omega
                by_cases hcd : cap = d
                · subst hcd
                  have hl0 : Hid (fl.length = cap) := by show fl.length = cap; omega
                  cases wrb with
                  | true =>
                    obtain rfl : jj = 1 := by simpa using HJ.out.symm
                    have hj1 : wc.cell? ⟨LA5 t, 1, none⟩ = some (.int .i64 cap) := by simpa using hjd
                    clear hjd
                    go_wp2
                    go_meet
                    case rel => exact ⟨rfl, rfl, by have h9 := hl0.out; simp; omega, some ⟨g, 0, none⟩, 0, by have h9 := hl0.out; simp; omega, fun wz _ => .inl (by have := hl0.out; omega)⟩
                  | false =>
                    obtain rfl : jj = 0 := by simpa using HJ.out.symm
                    have hj1 : wc.cell? ⟨LA5 t, 0, none⟩ = some (.int .i64 cap) := by simpa using hjd
                    clear hjd
                    go_wp2
                    go_meet
                    case rel => exact ⟨rfl, rfl, by have h9 := hl0.out; simp; omega, some ⟨g, 0, none⟩, 0, by have h9 := hl0.out; simp; omega, fun wz _ => .inl (by have := hl0.out; omega)⟩
                · have hcdI : ¬ (cap : Int) = d := by omega
                  cases wrb with
                  | true =>
                    obtain rfl : jj = 1 := by simpa using HJ.out.symm
                    have hj1 : wc.cell? ⟨LA5 t, 1, none⟩ = some (.int .i64 d) := by simpa using hjd
                    clear hjd
                    go_wp2
                    go_meet
                    case rel => exact ⟨rfl, rfl, by simp, some ⟨g, d, none⟩, cap - d, by simp, fun wz hz => tail_cells hz⟩
                  | false =>
                    obtain rfl : jj = 0 := by simpa using HJ.out.symm
                    have hj1 : wc.cell? ⟨LA5 t, 0, none⟩ = some (.int .i64 d) := by simpa using hjd
                    clear hjd
                    go_wp2
                    go_meet
                    case rel => exact ⟨rfl, rfl, by simp, some ⟨g, d, none⟩, cap - d, by simp, fun wz hz => tail_cells hz⟩
            case rest =>
              obtain ⟨rfl, rfl, rfl, A2, c2, rfl, hsl⟩ := hcut
              have HSL : Hid (∀ wz, wz.ownsRow 0 3 1 Vf fl.length (ints fl) → SlV wz A2 (fl.length - d) (fun i => .int .i64 (fl.getD (d + i) 0 : Nat))) := hsl
              have HK5 := hk5
              clear hsl hown hk5 b1 c0 c1 hjd hdlI hal
              go_wp2
              go_loopw [91] (fun i wz => ∃ j : Nat, j ≤ fl.length - d ∧ i = .int .i64 j ∧ Mid wz (fun b => (b < w.heap.size ∨ b = pb) ∨ b = wo.heap.size) w.heap.size gb m st.items (drawE st.succ t ((fl.drop d).take j)) s it li W A5 lm MB5 LA5 ∧ Kp (fun b => (b < w.heap.size ∨ b = pb) ∨ b = wo.heap.size) (wo.alloc (.cells #[.string (X t), .int .u8 q, .string s] 47)) wz) (fun i _ => (fl.length - d) - (intOf i).toNat)
              case atStart => exact ⟨0, by omega, rfl, HMD.out, HK5⟩
              case round =>
                obtain ⟨j, hj, rfl, hmz, hkz⟩ := hrel
                by_cases hjl : j < fl.length - d
                · have hjl' : (j : Int) < ((fl.length - d : Nat) : Int) := by omega
                  obtain ⟨Fz, hiz⟩ := hmz.at_
                  obtain ⟨Bz, oz, rfl, hcz⟩ : ∃ Bz oz, A2 = some ⟨Bz, oz, none⟩ ∧ ∀ i, i < fl.length - d → wr.cell? ⟨Bz, oz + i, none⟩ = some (.int .i64 (fl.getD (d + i) 0 : Nat)) := by
                    rcases HSL.out _ (HROW.out _ _ _ _ _ hiz rfl rfl) with h0 | h0
                    · omega
                    · exact h0
                  have g1 := hcz j hjl
                  have hue : fl.getD (d + j) 0 ∈ fl := by
                    rw [List.getD_eq_getElem?_getD, List.getElem?_eq_getElem (by omega)]
                    exact List.getElem_mem _
                  have hum := HFM.out _ hue
                  have htk1 : (fl.drop d).take (j + 1) = (fl.drop d).take j ++ [fl.getD (d + j) 0] := by
                    rw [List.take_add_one, List.getElem?_drop, List.getD_eq_getElem?_getD, List.getElem?_eq_getElem (by omega)]
                    rfl
                  have HSN : Hid (drawE st.succ t ((fl.drop d).take (j + 1)) = if fl.getD (d + j) 0 = t then drawE st.succ t ((fl.drop d).take j) else addE (drawE st.succ t ((fl.drop d).take j)) (fl.getD (d + j) 0) t) := by
                    show _ = _
                    rw [htk1, drawE_snoc]
                  have hlen : (drawE st.succ t ((fl.drop d).take j) (fl.getD (d + j) 0)).length ≤ 65536 := by
                    have := HLS.out (fl.getD (d + j) 0)
                    rcases len_drawE t (fl.getD (d + j) 0) ((fl.drop d).take j) st.succ with h | h
                    · rw [h]; omega
                    · rw [h, List.length_append]; simp only [List.length_cons, List.length_nil]; omega
                  have HMZ : Hid (Mid wr (fun b => (b < w.heap.size ∨ b = pb) ∨ b = wo.heap.size) w.heap.size gb m st.items (drawE st.succ t ((fl.drop d).take j)) s it li W A5 lm MB5 LA5) := hmz
                  have HKZ := hkz
                  clear hmz hkz hiz hcz hue htk1 HMD HK5
                  generalize hu : fl.getD (d + j) 0 = u at *
                  by_cases hut : u = t
                  · subst hut
                    have HS2 : Hid (drawE st.succ u ((fl.drop d).take (j + 1)) = drawE st.succ u ((fl.drop d).take j)) := HSN.out.trans (if_pos rfl)
                    clear HSN
                    go_wp2
                    go_roundw
                    case rel => exact ⟨j + 1, by omega, by go_num, by rw [HS2.out]; exact HMZ.out, HKZ⟩
                    case measure => simp [intOf]; omega
                  · have huI : ¬ (u : Int) = t := by omega
                    have HS2 : Hid (drawE st.succ t ((fl.drop d).take (j + 1)) = addE (drawE st.succ t ((fl.drop d).take j)) u t) := HSN.out.trans (if_neg hut)
                    clear HSN
                    go_wp2_with (go_at_call 36; refine (HMZ.out.add u t (by omega) hum htk hlen).mono ?_)
                    rintro e w8 ⟨rfl, hm8, hk8⟩
                    have HM8 : Hid (Mid w8 (fun b => (b < w.heap.size ∨ b = pb) ∨ b = wo.heap.size) w.heap.size gb m st.items (addE (drawE st.succ t ((fl.drop d).take j)) u t) s it li W A5 lm MB5 LA5) := hm8
                    have hk9 := HKZ.trans hk8
                    clear hm8 hk8
                    go_wp2
                    go_roundw
                    case rel => exact ⟨j + 1, by omega, by go_num, by rw [HS2.out]; exact HM8.out, hk9⟩
                    case measure => simp [intOf]; omega
                · obtain rfl : j = fl.length - d := by omega
                  have hjl' : ¬ ((fl.length - d : Nat) : Int) < ((fl.length - d : Nat) : Int) := by omega
                  have htake : (fl.drop d).take (fl.length - d) = fl.drop d := by rw [← List.length_drop]; exact List.take_length
                  rw [htake] at hmz
                  clear HMD HK5
                  obtain ⟨Fz, hiz⟩ := hmz.at_
                  have hown := HROW.out _ _ _ _ _ hiz rfl rfl
                  have hblk := hiz.acc t ac HAC.out
                  have a0 : wr.cell? ⟨LA5 t, 0, none⟩ = some (.int .i64 ac.d0) := by rw [Lib.cell_of_heap hblk]; rfl
                  have a1 : wr.cell? ⟨LA5 t, 1, none⟩ = some (.int .i64 ac.d1) := by rw [Lib.cell_of_heap hblk]; rfl
                  have z0 : wr.frozen? ⟨LA5 t, 0, none⟩ = false := by simp [World.frozen?, hblk]
                  have z1 : wr.frozen? ⟨LA5 t, 1, none⟩ = false := by simp [World.frozen?, hblk]
                  go_upto_region 26 with fail
                  go_cut [] (fun wd => Mid wd (fun b => (b < w.heap.size ∨ b = pb) ∨ b = wo.heap.size) w.heap.size gb m st.items (drawE st.succ t (fl.drop d)) s (setAcc it t (setDrawn ac wrb fl.length)) li W A5 lm MB5 LA5 ∧ Kp (fun b => (b < w.heap.size ∨ b = pb) ∨ b = wo.heap.size) (wo.alloc (.cells #[.string (X t), .int .u8 q, .string s] 47)) wd)
                  case first =>
                    rcases hown.2 with ⟨rfl, hz0⟩ | ⟨g, cap, cur, rfl, _, _, hcap, hcap2, _⟩
                    · clear hown
                      have HZ : Hid (fl.length = 0) := hz0
                      clear hz0
                      cases wrb with
                      | true =>
                        obtain rfl : jj = 1 := by simpa using HJ.out.symm
                        have HO : Hid (Mid (wr.setCell ⟨LA5 t, 1, none⟩ (.int .i64 fl.length)) (fun b => (b < w.heap.size ∨ b = pb) ∨ b = wo.heap.size) w.heap.size gb m st.items (drawE st.succ t (fl.drop d)) s (setAcc it t (setDrawn ac true fl.length)) li W A5 lm MB5 LA5 ∧ Kp (fun b => (b < w.heap.size ∨ b = pb) ∨ b = wo.heap.size) (wo.alloc (.cells #[.string (X t), .int .u8 q, .string s] 47)) (wr.setCell ⟨LA5 t, 1, none⟩ (.int .i64 fl.length))) := by
                          obtain ⟨r1, r2⟩ := hmz.setAcc (t := t) (j := 1) (a := ac) (a' := setDrawn ac true fl.length) (v := .int .i64 fl.length) HAC.out (by simp [setDrawn])
                          exact ⟨r1, hkz.trans r2⟩
                        rw [HZ.out] at HO
                        clear hmz hiz hblk HROW
                        go_wp2
                        go_meet
                        case rel => rw [HZ.out]; exact HO.out
                      | false =>
                        obtain rfl : jj = 0 := by simpa using HJ.out.symm
                        have HO : Hid (Mid (wr.setCell ⟨LA5 t, 0, none⟩ (.int .i64 fl.length)) (fun b => (b < w.heap.size ∨ b = pb) ∨ b = wo.heap.size) w.heap.size gb m st.items (drawE st.succ t (fl.drop d)) s (setAcc it t (setDrawn ac false fl.length)) li W A5 lm MB5 LA5 ∧ Kp (fun b => (b < w.heap.size ∨ b = pb) ∨ b = wo.heap.size) (wo.alloc (.cells #[.string (X t), .int .u8 q, .string s] 47)) (wr.setCell ⟨LA5 t, 0, none⟩ (.int .i64 fl.length))) := by
                          obtain ⟨r1, r2⟩ := hmz.setAcc (t := t) (j := 0) (a := ac) (a' := setDrawn ac false fl.length) (v := .int .i64 fl.length) HAC.out (by simp [setDrawn])
                          exact ⟨r1, hkz.trans r2⟩
                        rw [HZ.out] at HO
                        clear hmz hiz hblk HROW
                        go_wp2
                        go_meet
                        case rel => rw [HZ.out]; exact HO.out
                    · clear hown
                      cases wrb with
                      | true =>
                        obtain rfl : jj = 1 := by simpa using HJ.out.symm
                        have HO : Hid (Mid (wr.setCell ⟨LA5 t, 1, none⟩ (.int .i64 fl.length)) (fun b => (b < w.heap.size ∨ b = pb) ∨ b = wo.heap.size) w.heap.size gb m st.items (drawE st.succ t (fl.drop d)) s (setAcc it t (setDrawn ac true fl.length)) li W A5 lm MB5 LA5 ∧ Kp (fun b => (b < w.heap.size ∨ b = pb) ∨ b = wo.heap.size) (wo.alloc (.cells #[.string (X t), .int .u8 q, .string s] 47)) (wr.setCell ⟨LA5 t, 1, none⟩ (.int .i64 fl.length))) := by
                          obtain ⟨r1, r2⟩ := hmz.setAcc (t := t) (j := 1) (a := ac) (a' := setDrawn ac true fl.length) (v := .int .i64 fl.length) HAC.out (by simp [setDrawn])
                          exact ⟨r1, hkz.trans r2⟩
                        skip
                        clear hmz hiz hblk HROW
                        go_wp2
                        go_meet
                        case rel => exact HO.out
                      | false =>
                        obtain rfl : jj = 0 := by simpa using HJ.out.symm
                        have HO : Hid (Mid (wr.setCell ⟨LA5 t, 0, none⟩ (.int .i64 fl.length)) (fun b => (b < w.heap.size ∨ b = pb) ∨ b = wo.heap.size) w.heap.size gb m st.items (drawE st.succ t (fl.drop d)) s (setAcc it t (setDrawn ac false fl.length)) li W A5 lm MB5 LA5 ∧ Kp (fun b => (b < w.heap.size ∨ b = pb) ∨ b = wo.heap.size) (wo.alloc (.cells #[.string (X t), .int .u8 q, .string s] 47)) (wr.setCell ⟨LA5 t, 0, none⟩ (.int .i64 fl.length))) := by
                          obtain ⟨r1, r2⟩ := hmz.setAcc (t := t) (j := 0) (a := ac) (a' := setDrawn ac false fl.length) (v := .int .i64 fl.length) HAC.out (by simp [setDrawn])
                          exact ⟨r1, hkz.trans r2⟩
                        skip
                        clear hmz hiz hblk HROW
                        go_wp2
                        go_meet
                        case rel => exact HO.out
                  case rest =>
                    obtain ⟨hm9, hk9⟩ := hcut
                    clear hmz hkz hiz hown hblk a0 a1 z0 z1
                    obtain ⟨Fz, hi9⟩ := hm9.at_
                    have hac9 := setAcc_own it t (setDrawn ac wrb fl.length)
                    have hblk := hi9.acc t _ hac9
                    have a2 : wc.cell? ⟨LA5 t, 2, none⟩ = some (.bool ac.wrote) := by
                      rw [Lib.cell_of_heap hblk]
                      unfold setDrawn
                      split <;> rfl
                    have z2 : wc.frozen? ⟨LA5 t, 2, none⟩ = false := by simp [World.frozen?, hblk]
                    have hxb : wc.heap[wo.heap.size]? = some (.cells #[.string (X t), .int .u8 q, .string s] 47 (0, 0)) := (hk9.block _ (.inr rfl)).trans (heap_alloc_new _ _)
                    have b1 : wc.cell? ⟨wo.heap.size, 1, none⟩ = some (.int .u8 q) := by rw [Lib.cell_of_heap hxb]; rfl
                    have HM9 : Hid (Mid wc (fun b => (b < w.heap.size ∨ b = pb) ∨ b = wo.heap.size) w.heap.size gb m st.items (drawE st.succ t (fl.drop d)) s (setAcc it t (setDrawn ac wrb fl.length)) li W A5 lm MB5 LA5) := hm9
                    clear hm9 hi9 hxb hblk
                    cases wrb with
                    | false =>
                      obtain rfl : q = 1 := by simpa using HQ.out.symm
                      have HF : Hid (itF = setAcc it t (setDrawn ac false fl.length)) := HIF.out
                      clear HIF
                      go_wp2
                      go_roundw
                      case rel => exact ⟨k + 1, by omega, by go_num, HK.close hk9 HM9.out (by rw [HST.out, HF.out])⟩
                      case measure => simp [intOf]; omega
                    | true =>
                      obtain rfl : q = 2 := by simpa using HQ.out.symm
                      have hsd : (setDrawn ac true fl.length).wrote = ac.wrote := rfl
                      cases haw : ac.wrote with
                      | true =>
                        rw [haw] at a2
                        have HF : Hid (itF = setAcc it t (setDrawn ac true fl.length)) := HIF.out.trans (by rw [hsd, haw]; rfl)
                        clear HIF hsd haw
                        go_wp2
                        go_roundw
                        case rel => exact ⟨k + 1, by omega, by go_num, HK.close hk9 HM9.out (by rw [HST.out, HF.out])⟩
                        case measure => simp [intOf]; omega
                      | false =>
                        rw [haw] at a2
                        have HF : Hid (itF = setWrote it t (setDrawn ac true fl.length)) := HIF.out.trans (by rw [hsd, haw]; rfl)
                        clear HIF hsd
                        obtain ⟨hm10, hk10⟩ := HM9.out.setAcc (t := t) (j := 2) (a := setDrawn ac true fl.length) (a' := ⟨(setDrawn ac true fl.length).d0, (setDrawn ac true fl.length).d1, true⟩) (v := .bool true) hac9 (by simp)
                        rw [setAcc_set] at hm10
                        have HM10 : Hid (Mid (wc.setCell ⟨LA5 t, 2, none⟩ (.bool true)) (fun b => (b < w.heap.size ∨ b = pb) ∨ b = wo.heap.size) w.heap.size gb m st.items (drawE st.succ t (fl.drop d)) s (setAcc it t ⟨(setDrawn ac true fl.length).d0, (setDrawn ac true fl.length).d1, true⟩) li W A5 lm MB5 LA5 ∧ Kp (fun b => (b < w.heap.size ∨ b = pb) ∨ b = wo.heap.size) (wo.alloc (.cells #[.string (X t), .int .u8 2, .string s] 47)) (wc.setCell ⟨LA5 t, 2, none⟩ (.bool true))) := ⟨hm10, hk9.trans hk10⟩
                        clear hm10 hk10 haw HM9 hk9
                        go_upto_region 28 with fail
                        go_cut [] (fun wd => Mid wd (fun b => (b < w.heap.size ∨ b = pb) ∨ b = wo.heap.size) w.heap.size gb m st.items (drawE st.succ t (fl.drop d)) s (setAcc it t ⟨(setDrawn ac true fl.length).d0, (setDrawn ac true fl.length).d1, true⟩) li W A5 lm MB5 LA5 ∧ Kp (fun b => (b < w.heap.size ∨ b = pb) ∨ b = wo.heap.size) (wo.alloc (.cells #[.string (X t), .int .u8 2, .string s] 47)) wd)
                        case first =>
                          go_wp2
                          go_meet
                          case rel => exact HM10.out
                        case rest =>
                          clear HM10 a2 z2 b1
                          obtain ⟨hm11, hk11⟩ := hcut
                          obtain ⟨Fp6, hi6⟩ := hm11.at_
                          have c0 : wc.cell? ⟨li, 0, none⟩ = some W := by rw [Lib.cell_of_heap hi6.blk]; rfl
                          have hli6 : li < wc.heap.size := some_lt hi6.blk
                          have hfz : wc.frozen? ⟨li, 0, none⟩ = false := by simp [World.frozen?, hi6.blk]
                          have hne : ¬ (some li = W.ownBlock) := fun e => ownsRow_far hi6.rw_ (by decide) hi6.blk e.symm
                          have H4r : Hid ((wc.alloc (.cells #[.int .i64 t] 3)).ownsRow 0 3 1 W it.wr.length (ints it.wr)) := hi6.rw_.alloc _
                          have H6l : Hid (li < (wc.alloc (.cells #[.int .i64 t] 3)).heap.size) := by show li < (wc.alloc _).heap.size; simp; omega
                          have x1 : (wc.alloc (.cells #[.int .i64 t] 3)).cell? ⟨li, 0, none⟩ = some W := by rw [World.cell?_alloc_lt _ _ _ hli6]; exact c0
                          have x3 : (wc.alloc (.cells #[.int .i64 t] 3)).frozen? ⟨li, 0, none⟩ = false := by rw [World.frozen?_of_block (w := wc) (a := ⟨li, 0, none⟩) (Below.heap_alloc _ _ _ hli6)]; exact hfz
                          have FIN : Hid (∀ g cap w4, w4.ownsRow 0 3 1 (.slice (some ⟨g, 0, none⟩) (it.wr.length + 1) cap) (it.wr.length + 1) (ints it.wr ++ [.int .i64 t]) → (wc.alloc (.cells #[.int .i64 t] 3)).grownBy w4 W.ownBlock → (W.ownBlock = some g ∨ wc.heap.size ≤ g) →
                              Rnd w.heap.size w3 (w4.setCell ⟨li, 0, none⟩ (.slice (some ⟨g, 0, none⟩) (it.wr.length + 1) cap)) pb w.heap.size gb m (runF ops (k + 1))) := by
                            intro g cap w4 r1 r2 r3
                            obtain ⟨r4, r5⟩ := hm11.appW (t := t) r1 r2 r3
                            exact HK.close (hk11.trans r5) r4 (by rw [HST.out, HF.out]; rfl)
                          obtain ⟨i0, hii, hz0, hz1, hz2⟩ := info_parts Try.info3
                          have hwlen : it.wr.length ≤ 65536 := by omega
                          clear hm11 hi6 hk11 HROW HFL HVF HSL HK
                          go_wp2_with (at_builtin; refine wpList_append_lies _ rfl (.tmp 127) (.tmp 129) 42 rfl 0 3 i0 (.int .i64 0) 1 8 Try.underlying42 hii hz0 hz1 hz2 rfl (by decide) W it.wr.length (ints it.wr) rfl H4r.out ⟨wc.heap.size, 0, none⟩ 1 1 [.int .i64 t] rfl rfl (cell_one_new wc (.int .i64 t) 3) (by intro x hx; simp at hx; subst hx; rfl) (by decide) (by unfold maxLen; omega) (by omega) (Nat.zero_le _) (wc.heap.size + 1) (by simp) ?_)
                          intro g cap w7 hown7 hg7 hat7 hlt7
                          have k0 : w7.cell? ⟨li, 0, none⟩ = some W := (hg7.cell_far ⟨li, 0, none⟩ H6l.out hne).trans x1
                          have k2 : w7.frozen? ⟨li, 0, none⟩ = false := (hg7.frozen_far ⟨li, 0, none⟩ H6l.out hne).trans x3
                          have HO : Hid (Rnd w.heap.size w3 (w7.setCell ⟨li, 0, none⟩ (.slice (some ⟨g, 0, none⟩) (it.wr.length + 1) cap)) pb w.heap.size gb m (runF ops (k + 1))) := FIN.out g cap w7 hown7 hg7 (hat7.imp id (fun e => by omega))
                          clear FIN hown7 hg7 hat7 H4r x1 x3
                          go_wp2
                          go_roundw
                          case rel => exact ⟨k + 1, by omega, by go_num, HO.out⟩
                          case measure => simp [intOf]; omega
    · obtain rfl : k = n := by omega
      have hlt' : ¬ (k : Int) < k := by omega
      obtain ⟨F, hF1, hF2⟩ := hR.out
      have HF : Hid (GraphRep wo F gb m (runF ops k).succ ∧ ∀ b, F b → w.heap.size ≤ b) := ⟨hF1, hF2⟩
      have hB := hBW.trans hR.below
      clear hF1 hF2 hR hmp3
      go_wp2
      go_ret
      exact ⟨gb, F, rfl, hB, HF.out.1, HF.out.2⟩

end Go.Proofs.Qxb6600445a
