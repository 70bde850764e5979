import Derived.Test.Qxb6003656aPlainM
namespace Go.Proofs.Qxb6003656a
open Go.RowKit

/-- A record of n values, in a block of its own. -/
def RecAt (w : World) (R n : Nat) (K : Nat → Nat) (T : Nat → Int) (S : Nat → ByteArray) : Prop :=
  ∀ i, i < n → w.cell? ⟨R, i * 3, none⟩ = some (.int .u8 (K i)) ∧ w.cell? ⟨R, i * 3 + 1, none⟩ = some (.int .i64 (T i)) ∧ w.cell? ⟨R, i * 3 + 2, none⟩ = some (.string (S i))

/-- The builder inside the loop: nothing below B has turned since w. -/
def BS (w wr : World) (B b : Nat) (l : List UInt8) : Prop := Bld wr B b (Lib.byteCells l) ∧ Below B w wr

/-- The fields' kinds and sizes. -/
def Dom (n : Nat) (K : Nat → Nat) (S : Nat → ByteArray) : Prop := n ≤ 65536 ∧ ∀ i, i < n → (K i = 1 ∨ K i = 2) ∧ (S i).size ≤ 1048576

theorem quiet_uv {n U : Nat} (hn : n ≤ 1048576) (hU : (uv n).length = U) (W : World) (x : Nat) :
    Calls Try.prog 28 #[.int .i64 n] (W.drewN x) fun e w'' => e = .returned (.int .i64 U) ∧ ∃ n, w'' = W.drewN n :=
  (uvlen_any n _ hn).mono fun _ _ ⟨he, hq⟩ => ⟨by rw [he, hU], x, hq⟩

/-- What Grow leaves. -/
theorem Bld.ofGrow {w : World} {B b : Nat} (h : Lib.BuilderAt 60 5 B b (.pointer (some ⟨b, 0, none⟩)) [] w) : Bld w B b [] :=
  ⟨h.1, h.2.choose, h.2.choose_spec.1, h.2.choose_spec.2.1⟩

theorem Bld.toIs {w : World} {B b : Nat} {l : List UInt8} (h : Bld w B b (Lib.byteCells l)) : Lib.IsBuilder 60 5 B b (Lib.byteCells l) w := by
  obtain ⟨h1, v, h2, h3⟩ := h
  exact .inr ⟨h1, v, h2, h3, ownsRow_far h3 (by decide) h2⟩

/-- What a write leaves, as bytes. -/
def WroteL (w w' : World) (B b : Nat) (l : List UInt8) : Prop := Bld w' B b (Lib.byteCells l) ∧ Below B w w' ∧ Kept w w'

theorem putByte (B b : Nat) (l : List UInt8) (c : Int) (x : UInt8) (hc : c = (x.toNat : Int)) (w : World) (h : Bld w B b (Lib.byteCells l)) (hlen : l.length + 1 ≤ 140737488355328) (hBw : B ≤ w.heap.size) :
    Calls Try.prog 31 #[.pointer (some ⟨b, 0, none⟩), .int .u8 c] w fun e w' => e = .returned .nilIface ∧ WroteL w w' B b (l ++ [x]) := by
  refine (writeByte_any B b _ c w h (by simpa [Lib.byteCells_length] using hlen) hBw).mono ?_
  rintro e w' ⟨rfl, h1, h2⟩
  refine ⟨rfl, ?_, h2⟩
  rw [Lib.byteCells_append]
  subst hc
  exact h1

theorem putString (B b : Nat) (l : List UInt8) (s : ByteArray) (w : World) (h : Bld w B b (Lib.byteCells l)) (hlen : l.length + s.size ≤ 140737488355328) (hBw : B ≤ w.heap.size) :
    Calls Try.prog 30 #[.pointer (some ⟨b, 0, none⟩), .string s] w fun e w' => e = .returned (.tuple #[.int .i64 s.size, .nilIface]) ∧ WroteL w w' B b (l ++ s.data.toList) := by
  refine (writeString_any B b _ s w h (by simpa [Lib.byteCells_length] using hlen) hBw).mono ?_
  rintro e w' ⟨rfl, h1, h2⟩
  refine ⟨rfl, ?_, h2⟩
  rw [Lib.byteCells_append]
  exact h1

theorem Bld.alloc {w : World} {B b : Nat} {bs : List Value} (h : Bld w B b bs) (o : Obj) : Bld (w.alloc o) B b bs := by
  obtain ⟨h1, v, h2, h3⟩ := h
  exact ⟨h1, v, by rw [Lib.alloc_old w _ b (Array.getElem?_eq_some_iff.1 h2).1]; exact h2, h3.alloc _⟩

/-- Inside a field: the builder, and the field's box in block x. -/
def IB (w wi : World) (b x : Nat) (bx : Array Value) (l : List UInt8) : Prop :=
  Bld wi b b (Lib.byteCells l) ∧ Below w.heap.size w wi ∧ b ≤ wi.heap.size ∧ wi.heap[x]? = some (.cells bx 52 (0, 0))

theorem IB.start {w wr : World} {b : Nat} {bx : Array Value} {l : List UInt8} (h : Bld wr b b (Lib.byteCells l)) (h2 : Below w.heap.size w wr) (h3 : b ≤ wr.heap.size) :
    IB w (wr.alloc (.cells bx 52)) b wr.heap.size bx l :=
  ⟨h.alloc _, h2.alloc h2.size _, by simp; omega, heap_alloc_new _ _⟩

theorem IB.step {w wi w' : World} {b x : Nat} {bx : Array Value} {l l' : List UInt8} (h : IB w wi b x bx l) (hb : w.heap.size ≤ b) (hw : WroteL wi w' b b l') : IB w w' b x bx l' :=
  ⟨hw.1, h.2.1.trans (hw.2.1.mono hb), Nat.le_trans h.2.2.1 hw.2.1.size, hw.2.2 _ _ _ _ (by decide) (by decide) h.2.2.2⟩

theorem IB.cells {w wi : World} {b x : Nat} {u v y : Value} {l : List UInt8} (h : IB w wi b x #[u, v, y] l) : wi.cell? ⟨x, 0, none⟩ = some u ∧ wi.cell? ⟨x, 1, none⟩ = some v ∧ wi.cell? ⟨x, 2, none⟩ = some y := by
  refine ⟨?_, ?_, ?_⟩ <;> (rw [Lib.cell_of_heap h.2.2.2]; rfl)

theorem tw_int (t : Int) : ((tw t : Nat) : Int) = IntKind.u64.wrap t := by
  have : 0 ≤ IntKind.u64.wrap t := by
    show 0 ≤ t % _
    exact Int.emod_nonneg _ (by decide)
  unfold tw
  omega

theorem le8_int (t : Int) (j : Nat) : IntKind.u64.wrap t / 2 ^ (8 * j) % 256 = ((le8 t j).toNat : Int) := by
  rw [← tw_int, le8, UInt8.toNat_ofNat']
  rw [Int.natCast_emod, Int.natCast_ediv, Int.natCast_pow]
  rfl

set_option maxRecDepth 100000 in
theorem or128_nat : ∀ x : Fin 256, (x.val ||| 128) = x.val % 128 + 128 := by decide

theorem or128_int (m : Nat) : bits .or .u8 ((m : Int) % 256) 128 = ((UInt8.ofNat (m % 128 + 128)).toNat : Int) := by
  have h1 : ((m : Int) % 256) = ((m % 256 : Nat) : Int) := by omega
  rw [h1]
  rw [show (128 : Int) = ((128 : Nat) : Int) from rfl]
  rw [(bits_nat .u8 8 (by decide) wraps_u8 (m % 256) 128 (by omega) (by decide)).2]
  rw [UInt8.toNat_ofNat']
  have := or128_nat ⟨m % 256, by omega⟩
  simp only at this
  rw [this]
  omega

set_option maxHeartbeats 2000000 in
set_option maxRecDepth 100000 in
theorem makeRow_any (key : ByteArray) (R n c : Nat) (K : Nat → Nat) (T : Nat → Int) (S : Nat → ByteArray) (w : World)
   (hk : key.size ≤ 65536) (hdom : Dom n K S) (hrec : RecAt w R n K T S) (hR : R < w.heap.size) :
    Calls Try.prog 25 #[.string key, .slice (some ⟨R, 0, none⟩) n c] w fun e w' => e = .returned (.string ⟨(pre key K T S n).toArray⟩) ∧ Below w.heap.size w w' := by
  go_enter Try.func25, Try.ntmps25
  go_wp2
  go_loopw [5, 17] (fun s i wr => ∃ k z : Nat, i = .int .i64 k ∧ s = .int .i64 z ∧ k ≤ n ∧ z ≤ 65536 + 3145728 * k ∧ Below w.heap.size w wr) (fun _ i _ => n - (intOf i).toNat)
  case atStart => exact ⟨0, key.size, rfl, rfl, by omega, by omega, Below.refl _ _⟩
  case round =>
    obtain ⟨k, z, rfl, rfl, hkn, hz, hbel⟩ := hrel
    by_cases hlt : k < n
    · obtain ⟨r0, r1, r2⟩ := hrec k hlt
      obtain ⟨hn, hd⟩ := hdom
      obtain ⟨hKk, hSk⟩ := hd k hlt
      rw [← hbel.cell (p := ⟨R, k * 3, none⟩) hR] at r0
      rw [← hbel.cell (p := ⟨R, k * 3 + 1, none⟩) hR] at r1
      rw [← hbel.cell (p := ⟨R, k * 3 + 2, none⟩) hR] at r2
      have hRr : R < wr.heap.size := Nat.lt_of_lt_of_le hR hbel.size
      have hlt' : (k : Int) < n := by omega
      have hul := uv_len (S k).size
      clear hrec hd
      rcases hKk with h1 | h1
      · rw [h1] at r0
        go_wp2
        go_roundw
        case rel => exact ⟨k + 1, z + 9, by go_num, by go_num, by omega, by omega, hbel.alloc hbel.size _⟩
        case measure => simp [intOf]; omega
      · rw [h1] at r0
        generalize hU : (uv (S k).size).length = U at hul
        go_wp2
        go_quiet ((go_at_call 28; exact quiet_uv hSk hU _ _))
        go_wp2
        go_roundw
        case rel => exact ⟨k + 1, z + (1 + U + (S k).size), by go_num, by go_num, by omega, by omega, (below_drewN (hbel.alloc hbel.size _) _)⟩
        case measure => simp [intOf]; omega
    · obtain rfl : n = k := by omega
      have hlt' : ¬ (n : Int) < n := by omega
      have hB : w.heap.size ≤ wr.heap.size := hbel.size
      obtain ⟨hn, hd⟩ := hdom
      obtain ⟨b, hb⟩ : ∃ b, b = wr.heap.size := ⟨_, rfl⟩
      have hbR : R < b := by omega
      go_wp2_with (go_at_call 29; refine (grow_any wr.heap.size wr.heap.size z _ (Nat.le_refl _) (heap_alloc_new _ _) (by simp) (by omega)).mono ?_)
      rintro e w1 rfl hb1 hb2
      have hbld := Bld.ofGrow hb1
      have hbel1 : Below w.heap.size w w1 := (hbel.alloc hB _).trans (hb2.mono hB)
      have hwb : w.heap.size ≤ b := by omega
      clear hb1 hb2 hbel
      rw [← hb] at hbld
      simp only [← hb]
      clear hB hz
      have hbs : b ≤ w1.heap.size := by
        obtain ⟨_, v, h2, _⟩ := hbld
        exact Nat.le_of_lt (Array.getElem?_eq_some_iff.1 h2).1
      clear hb wr
      go_wp2_with (go_at_call 30; refine (putString b b [] key _ hbld (by simp; omega) hbs).mono ?_)
      rintro e w2 ⟨rfl, hbld2, hbel2, -⟩
      have hpl := pre_len key K T S n hk (fun i hi => (hd i hi).2)
      have HB : Hid (Bld w2 b b (Lib.byteCells (pre key K T S 0)) ∧ Below w.heap.size w w2 ∧ b ≤ w2.heap.size) := ⟨by simpa [pre] using hbld2, hbel1.trans (hbel2.mono hwb), Nat.le_trans hbs hbel2.size⟩
      clear hbld2 hbel2 hbld hbel1 hbs
      go_wp2
      go_loopw [44] (fun i wr => ∃ k : Nat, i = .int .i64 k ∧ k ≤ n ∧ Bld wr b b (Lib.byteCells (pre key K T S k)) ∧ Below w.heap.size w wr ∧ b ≤ wr.heap.size) (fun i _ => n - (intOf i).toNat)
      case atStart => exact ⟨0, rfl, by omega, HB⟩
      case round =>
        obtain ⟨k, rfl, hkn, hbld, hbel, hbs⟩ := hrel
        clear HB
        have hpk := hpl k hkn
        by_cases hlt : k < n
        · obtain ⟨r0, r1, r2⟩ := hrec k hlt
          obtain ⟨hKk, hSk⟩ := hd k hlt
          rw [← hbel.cell (p := ⟨R, k * 3, none⟩) hR] at r0
          rw [← hbel.cell (p := ⟨R, k * 3 + 1, none⟩) hR] at r1
          rw [← hbel.cell (p := ⟨R, k * 3 + 2, none⟩) hR] at r2
          have hRr : R < wr.heap.size := Nat.lt_of_lt_of_le hR hbel.size
          have hlt' : (k : Int) < n := by omega
          clear hrec hd
          have hns : pre key K T S (k + 1) = pre key K T S k ++ encF (K k) (T k) (S k) := rfl
          have hpk1 := hpl (k + 1) hlt
          rcases hKk with h1 | h1
          · rw [h1] at r0 hns
            have hib := IB.start (bx := #[.int .u8 1, .int .i64 (T k), .string (S k)]) hbld hbel hbs
            go_wp2_with (go_at_call 31; refine (putByte b b _ 1 1 rfl _ hib.1 (by omega) hib.2.2.1).mono ?_)
            rintro e w3 ⟨rfl, hw3⟩
            have HB := hib.step hwb hw3
            clear hw3 hib hbld hbel hbs r0 r1 r2 hRr
            obtain ⟨x, hx⟩ : ∃ x, x = wr.heap.size := ⟨_, rfl⟩
            rw [← hx] at HB
            simp only [← hx]
            clear hx wr
            obtain ⟨c0, c1, c2⟩ := HB.cells
            go_wp2
            clear c0 c1 c2
            go_loopw [11] (fun i wi => ∃ j : Nat, i = .int .i64 (8 * (j : Int)) ∧ j ≤ 8 ∧ IB w wi b x #[.int .u8 1, .int .i64 (T k), .string (S k)] (pre key K T S k ++ [1] ++ (List.range j).map (le8 (T k)))) (fun i _ => 64 - (intOf i).toNat)
            case atStart => exact ⟨0, rfl, by omega, by simpa using HB⟩
            case round =>
              obtain ⟨j, rfl, hj, HI⟩ := hrel
              obtain ⟨c0, c1, c2⟩ := HI.cells
              by_cases hj8 : j < 8
              · have hj' : 8 * (j : Int) < 64 := by omega
                go_wp2_with (go_at_call 31; refine (putByte b b _ _ (le8 (T k) j) (le8_int _ _) _ HI.1 (by simp; omega) HI.2.2.1).mono ?_)
                rintro e w4 ⟨rfl, hw4⟩
                have HJ := HI.step hwb hw4
                clear hw4 HI c0 c1 c2
                go_wp2
                go_roundw
                case rel => exact ⟨j + 1, by go_num, by omega, by rw [List.range_succ, List.map_append, ← List.append_assoc]; exact HJ⟩
                case measure => simp [intOf]; omega
              · have hj' : ¬ 8 * (j : Int) < 64 := by omega
                obtain rfl : j = 8 := by omega
                go_wp2
                go_roundw
                case rel => exact ⟨k + 1, by go_num, by omega, by rw [hns]; simpa [encF] using HI.1, HI.2.1, HI.2.2.1⟩
                case measure => simp [intOf]; omega
          · rw [h1] at r0 hns
            have hib := IB.start (bx := #[.int .u8 2, .int .i64 (T k), .string (S k)]) hbld hbel hbs
            have hul := uv_len (S k).size
            go_wp2_with (go_at_call 31; refine (putByte b b _ 2 2 rfl _ hib.1 (by omega) hib.2.2.1).mono ?_)
            rintro e w3 ⟨rfl, hw3⟩
            have HB := hib.step hwb hw3
            clear hw3 hib hbld hbel hbs r0 r1 r2 hRr
            obtain ⟨x, hx⟩ : ∃ x, x = wr.heap.size := ⟨_, rfl⟩
            rw [← hx] at HB
            simp only [← hx]
            clear hx wr
            obtain ⟨c0, c1, c2⟩ := HB.cells
            go_wp2
            clear c0 c1 c2
            go_loopw [12] (fun i wi => ∃ (m : Nat) (d : List UInt8), i = .int .i64 (m : Int) ∧ m ≤ (S k).size ∧ d ++ uv m = uv (S k).size ∧ IB w wi b x #[.int .u8 2, .int .i64 (T k), .string (S k)] (pre key K T S k ++ [2] ++ d)) (fun i _ => (intOf i).toNat)
            case atStart => exact ⟨(S k).size, [], rfl, Nat.le_refl _, rfl, by simpa using HB⟩
            case round =>
              obtain ⟨m, d, rfl, hm, hdm, HI⟩ := hrel
              obtain ⟨c0, c1, c2⟩ := HI.cells
              have hdl : d.length + (uv m).length = (uv (S k).size).length := by rw [← hdm, List.length_append]
              have hum := uv_len m
              by_cases hm8 : m < 128
              · have hm' : ¬ (m : Int) ≥ 128 := by omega
                rw [uv_lt hm8] at hdm
                go_wp2_with (go_at_call 31; refine (putByte b b _ _ (UInt8.ofNat m) ?v1 _ HI.1 (by simp; omega) HI.2.2.1).mono ?_)
                case v1 => omega
                rintro e w4 rfl hw4
                have HJ := HI.step hwb hw4
                clear hw4 HI c0 c1 c2
                obtain ⟨c0, c1, c2⟩ := HJ.cells
                go_wp2_with (go_at_call 30; refine (putString b b _ (S k) _ HJ.1 (by simp; omega) HJ.2.2.1).mono ?_)
                rintro e w5 ⟨rfl, hw5⟩
                have HL := HJ.step hwb hw5
                clear hw5 HJ c0 c1 c2
                go_wp2
                go_roundw
                case rel => exact ⟨k + 1, by go_num, by omega, by rw [hns]; simpa [encF, ← hdm] using HL.1, HL.2.1, HL.2.2.1⟩
                case measure => simp [intOf]; omega
              · have hm' : (m : Int) ≥ 128 := by omega
                have hm'' : (128 : Int) ≤ m := by omega
                rw [uv_ge (by omega)] at hdm
                go_wp2_with (go_at_call 31; refine (putByte b b _ _ (UInt8.ofNat (m % 128 + 128)) ?v1 _ HI.1 (by simp; omega) HI.2.2.1).mono ?_)
                case v1 => exact or128_int m
                rintro e w4 ⟨rfl, hw4⟩
                have HJ := HI.step hwb hw4
                clear hw4 HI c0 c1 c2
                go_wp2
                go_roundw
                case rel => exact ⟨m / 128, d ++ [UInt8.ofNat (m % 128 + 128)], by go_num, by omega, by simpa using hdm, by rw [← List.append_assoc]; exact HJ⟩
                case measure => simp [intOf]; omega
        · obtain rfl : n = k := by omega
          have hlt' : ¬ (n : Int) < n := by omega
          go_wp2_with (go_at_call 32; refine (string_any b b _ _ hbld.toIs hbs).mono ?_)
          rintro e w3 rfl hb3
          go_wp2
          go_ret
          exact ⟨rfl, hbel.trans (hb3.mono hwb)⟩

end Go.Proofs.Qxb6003656a
