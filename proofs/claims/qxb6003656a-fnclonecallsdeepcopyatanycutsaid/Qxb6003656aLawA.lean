import Derived.Test.Qxb6003656aBytes
import Derived.Deep.RegionHeld3
namespace Go.Proofs.Qxb6003656a
open Go.RowKit

theorem CA.take {w : World} {a : Option Addr} {n : Nat} {P : Nat → ByteArray} {A : Nat → Option Addr} {L C : Nat → Nat} {T : Nat → Int} {S : Nat → Nat → ByteArray} (h : CA w a n P A L C T S) (m : Nat) (hm : m ≤ n) : CA w a m P A L C T S := by
  rcases h with h | ⟨B, o, h1, h2⟩
  · exact .inl (by omega)
  · exact .inr ⟨B, o, h1, fun i hi => h2 i (by omega)⟩

theorem CA.drop {w : World} {a : Option Addr} {n : Nat} {P : Nat → ByteArray} {A : Nat → Option Addr} {L C : Nat → Nat} {T : Nat → Int} {S : Nat → Nat → ByteArray} (h : CA w a n P A L C T S) (m : Nat) (hm : m ≤ n) (a' : Option Addr) (ha : m < n → ∀ B o, a = some ⟨B, o, none⟩ → a' = some ⟨B, o + m * 3, none⟩) :
    CA w a' (n - m) (fun i => P (m + i)) (fun i => A (m + i)) (fun i => L (m + i)) (fun i => C (m + i)) (fun i => T (m + i)) (fun i => S (m + i)) := by
  rcases Nat.lt_or_ge m n with hlt | hge
  · rcases h with h | ⟨B, o, h1, h2⟩
    · exact .inl (by omega)
    · refine .inr ⟨B, o + m * 3, ha hlt B o h1, fun i hi => ?_⟩
      have := h2 (m + i) (by omega)
      rw [show o + (m + i) * 3 = o + m * 3 + i * 3 by omega] at this
      exact this
  · exact .inl (by omega)

/-- The whole clone while its Args are written: t strings have grown by one byte so far. -/
structure Wh (wr : World) (BW n : Nat) (A : Nat → Option Addr) (L C : Nat → Nat) (t : Nat) : Prop where
  cell : ∀ i, i < n → wr.cell? ⟨BW, i * 3 + 1, none⟩ = some (.slice (A i) (L i) (C i))
  strs : ∀ i, i < n → L i = 0 ∨ ∃ B o, A i = some ⟨B, o, none⟩ ∧ BW + 1 ≤ B ∧ ∀ j, j < L i → wr.frozen? ⟨B, o + j, none⟩ = false ∧ ∃ s : ByteArray, wr.cell? ⟨B, o + j, none⟩ = some (.string s) ∧ s.size ≤ 1048576 + t

theorem Wh.ofFCA {w : World} {H BW n : Nat} {P : Nat → ByteArray} {A : Nat → Option Addr} {L C : Nat → Nat} {T : Nat → Int} {S : Nat → Nat → ByteArray} (h : FCA w H (some ⟨BW, 0, none⟩) n P A L C T S) (hS : ∀ i, i < n → ∀ j, j < L i → (S i j).size ≤ 1048576) : Wh w BW n A L C 0 := by
  rcases h with h | ⟨B, h1, h2, h3, h4⟩
  · exact ⟨fun i hi => by omega, fun i hi => by omega⟩
  · simp only [Option.some.injEq, Addr.mk.injEq, and_true] at h1
    subst h1
    refine ⟨fun i hi => (h4 i hi).1.2.1, fun i hi => ?_⟩
    rcases (h4 i hi).2.1 with h5 | ⟨B', o, h5, h6, h7, h8⟩
    · exact .inl h5
    · exact .inr ⟨B', o, h5, h6, fun j hj => ⟨(h8 j hj).2, S i j, (h8 j hj).1, by have := hS i hi j hj; omega⟩⟩

theorem Wh.drewN {wr : World} {BW n : Nat} {A : Nat → Option Addr} {L C : Nat → Nat} {t : Nat} (h : Wh wr BW n A L C t) (q : Nat) : Wh (wr.drewN q) BW n A L C t := ⟨h.cell, h.strs⟩
theorem Wh.drew {wr : World} {BW n : Nat} {A : Nat → Option Addr} {L C : Nat → Nat} {t : Nat} (h : Wh wr BW n A L C t) : Wh wr.drew BW n A L C t := ⟨h.cell, h.strs⟩

theorem Wh.store {wr : World} {BW n : Nat} {A : Nat → Option Addr} {L C : Nat → Nat} {t : Nat} (h : Wh wr BW n A L C t) {k j B o : Nat} (hk : k < n) (hj : j < L k) (hA : A k = some ⟨B, o, none⟩) (s' : ByteArray) (hs : s'.size ≤ 1048576 + (t + 1)) :
    Wh (wr.setCell ⟨B, o + j, none⟩ (.string s')) BW n A L C (t + 1) := by
  have hB : BW + 1 ≤ B ∧ ∃ s : ByteArray, wr.cell? ⟨B, o + j, none⟩ = some (.string s) := by
    rcases h.strs k hk with h0 | ⟨B', o', h1, h2, h3⟩
    · omega
    · rw [hA] at h1
      simp only [Option.some.injEq, Addr.mk.injEq, and_true] at h1
      obtain ⟨rfl, rfl⟩ := h1
      obtain ⟨_, s, h4, _⟩ := h3 j hj
      exact ⟨h2, s, h4⟩
  obtain ⟨hB1, s0, hs0⟩ := hB
  refine ⟨fun i hi => ?_, fun i hi => ?_⟩
  · rw [World.cell?_setCell_other _ _ _ _ (fun h => by simp only [Addr.mk.injEq] at h; omega)]
    exact h.cell i hi
  · rcases h.strs i hi with h0 | ⟨B', o', h1, h2, h3⟩
    · exact .inl h0
    · refine .inr ⟨B', o', h1, h2, fun j' hj' => ?_⟩
      obtain ⟨h4, s, h5, h6⟩ := h3 j' hj'
      refine ⟨by rw [World.frozen?_setCell]; exact h4, ?_⟩
      by_cases e : (⟨B, o + j, none⟩ : Addr) = ⟨B', o' + j', none⟩
      · rw [← e]
        exact ⟨s', World.cell?_setCell_same _ _ _ hs0, hs⟩
      · exact ⟨s, by rw [World.cell?_setCell_other _ _ _ _ e]; exact h5, by omega⟩

theorem size_bang (s : ByteArray) : (s ++ (⟨#[33]⟩ : ByteArray)).size = s.size + 1 := by
  rw [ByteArray.size_append]
  rfl

set_option maxHeartbeats 8000000 in
set_option maxRecDepth 100000 in
theorem clone_eq (a0 a1 a2 : Option Addr) (n c0 c1 c2 : Nat) (k0 : Int) (P : Nat → ByteArray) (A : Nat → Option Addr) (L C : Nat → Nat) (T : Nat → Int) (S : Nat → Nat → ByteArray) (w : World)
   (hp : SlV w a0 n (fun i => .string (P i))) (ha : SlV w a1 n (fun i => .slice (A i) (L i) (C i))) (hst : SlV w a2 n (fun i => .int .i64 (T i))) (hs : ∀ i, i < n → SlV w (A i) (L i) (fun j => .string (S i j)))
   (hnn : ∀ i, i < n → A i = none → L i = 0 ∧ C i = 0) :
    Calls Try.prog 4 #[.slice a0 n c0, .slice a1 n c1, .slice a2 n c2, .int .i64 k0] w fun e w' => e = .returned (.bool true) ∧ Below w.heap.size w w' := by
  go_enter Try.func4, Try.ntmps4
  go_wp2_with fail
  refine (bytes_any a0 a1 a2 n c0 n c1 n c2 (.int .i64 k0) P A L C S w hp ha hs).mono ?_
  rintro e wz ⟨rfl | ⟨rfl, hbd⟩, rfl⟩
  · go_wp2
    go_ret
    exact ⟨rfl, Below.refl _ _⟩
  · by_cases t1 : 65536 < (n : Int)
    · go_wp2
      go_ret
      exact ⟨rfl, Below.refl _ _⟩
    · by_cases t2 : 65536 < (n : Int)
      · go_wp2
        go_ret
        exact ⟨rfl, Below.refl _ _⟩
      · by_cases t3 : 65536 < (n : Int)
        · go_wp2
          go_ret
          exact ⟨rfl, Below.refl _ _⟩
        · go_wp2
          go_loop [9, 10] (fun b i => ∃ (k : Nat) (z : Int), k ≤ n ∧ i = .int .i64 k ∧ b = .int .i64 z ∧ 0 ≤ z ∧ z ≤ 4194304) (fun _ i => n - (intOf i).toNat)
          case atStart => exact ⟨0, _, by omega, rfl, rfl, by omega, by omega⟩
          case round =>
            obtain ⟨k, z, hk, rfl, rfl, hz0, hz1⟩ := hrel
            by_cases hlt : k < n
            · have hlt' : (k : Int) < n := by omega
              by_cases hzb : z ≤ 1048576
              · have G1 : ∃ Bp op, a0 = some ⟨Bp, op, none⟩ ∧ w.cell? ⟨Bp, op + k, none⟩ = some (.string (P k)) := by
                  rcases hp with h0 | ⟨Bp, op, h1, hp'⟩
                  · omega
                  · exact ⟨Bp, op, h1, hp' k hlt⟩
                obtain ⟨Bp, op, rfl, g1⟩ := G1
                have hPk := hbd.2.2.2.1 k hlt
                have hPk' : ((P k).size : Int) ≤ 1048576 := by omega
                go_wp2
                go_round
                case rel => exact ⟨k + 1, z + ((P k).size : Int), by omega, by go_num, rfl, by omega, by omega⟩
                case measure => simp [intOf]; omega
              · go_wp2
                go_loop [9, 11, 12] (fun b i _ => b = .int .i64 z ∧ i = .int .i64 0) (fun _ _ _ => 0)
                case atStart => exact ⟨rfl, rfl⟩
                case round =>
                  obtain ⟨rfl, rfl⟩ := hrel
                  by_cases q0 : 0 < n
                  · have q1 : (0 : Int) < n := by omega
                    have q2 : ¬ z ≤ 1048576 := by omega
                    go_wp2
                    go_ret
                    exact ⟨rfl, Below.refl _ _⟩
                  · have q1 : decide ((0 : Int) < (n : Int)) = false := by simp; omega
                    go_wp2
                    go_ret
                    exact ⟨rfl, Below.refl _ _⟩
            · have hlt' : decide ((k : Int) < (n : Int)) = false := by simp; omega
              by_cases hzb : z ≤ 1048576
              · go_wp2
                go_loop [9, 11] (fun b i => ∃ (k : Nat) (z : Int), k ≤ n ∧ i = .int .i64 k ∧ b = .int .i64 z ∧ 0 ≤ z ∧ z ≤ 33554432) (fun _ i => n - (intOf i).toNat)
                case atStart => exact ⟨0, _, by omega, rfl, rfl, by omega, by omega⟩
                case round =>
                  clear hz0 hz1 hzb
                  obtain ⟨k, z, hk, rfl, rfl, hz0, hz1⟩ := hrel
                  by_cases hlt : k < n
                  · have hlt' : (k : Int) < n := by omega
                    by_cases hzb : z ≤ 1048576
                    · have G2 : ∃ Ba oa, a1 = some ⟨Ba, oa, none⟩ ∧ w.cell? ⟨Ba, oa + k, none⟩ = some (.slice (A k) (L k) (C k)) := by
                        rcases ha with h0 | ⟨Ba, oa, h1, ha'⟩
                        · omega
                        · exact ⟨Ba, oa, h1, ha' k hlt⟩
                      obtain ⟨Ba, oa, rfl, g2⟩ := G2
                      have hLk := (hbd.2.2.2.2 k hlt).1
                      have hLk' : (L k : Int) ≤ 1048576 := by omega
                      go_wp2
                      go_loop [9, 12] (fun b i => ∃ (j : Nat) (y : Int), j ≤ L k ∧ i = .int .i64 j ∧ b = .int .i64 y ∧ 0 ≤ y ∧ y ≤ 33554432) (fun _ i => L k - (intOf i).toNat)
                      case atStart => exact ⟨0, _, by omega, rfl, rfl, by omega, by omega⟩
                      case round =>
                        obtain ⟨j, y, hj, rfl, rfl, hy0, hy1⟩ := hrel
                        by_cases hjl : j < L k
                        · have hjl' : (j : Int) < L k := by omega
                          by_cases hyb : y ≤ 1048576
                          · rcases (hs k hlt) with h0 | ⟨Bx, ox, ex, hx⟩
                            · omega
                            have g4 := hx j hjl
                            have hS := (hbd.2.2.2.2 k hlt).2 j hjl
                            have hS' : ((S k j).size : Int) ≤ 1048576 := by omega
                            rw [ex] at g2
                            clear hx ex hS
                            go_wp2
                            go_round
                            case rel => exact ⟨j + 1, y + ((S k j).size : Int), by omega, by go_num, rfl, by omega, by omega⟩
                            case measure => simp [intOf]; omega
                          · go_wp2
                            go_round
                            case rel => exact ⟨k + 1, y, by omega, by go_num, rfl, by omega, by omega⟩
                            case measure => simp [intOf]; omega
                        · have hjl' : decide ((j : Int) < (L k : Int)) = false := by simp; omega
                          go_wp2
                          go_round
                          case rel => exact ⟨k + 1, y, by omega, by go_num, rfl, by omega, by omega⟩
                          case measure => simp [intOf]; omega
                    · go_wp2
                      go_ret
                      exact ⟨rfl, Below.refl _ _⟩
                  · have hlt' : decide ((k : Int) < (n : Int)) = false := by simp; omega
                    by_cases hzb : z ≤ 1048576
                    · have hzb' : ¬ 1048576 < z := by omega
                      by_cases hk0 : k0 < 0
                      · have hk0' := hk0
                        go_wp2
                        go_ret
                        exact ⟨rfl, Below.refl _ _⟩
                      · have hk0' : decide (k0 < 0) = false := by simpa using hk0
                        by_cases hk1 : (n : Int) < k0
                        · go_wp2
                          go_ret
                          exact ⟨rfl, Below.refl _ _⟩
                        · obtain ⟨m, rfl⟩ := Int.eq_ofNat_of_zero_le (show 0 ≤ k0 by omega)
                          have hmn : m ≤ n := by omega
                          have hmn' : (m : Int) ≤ n := by omega
                          have hin : IN w a0 a1 a2 n P A L C T S := ⟨hp, ha, hst, fun i hi => ⟨hs i hi, hnn i hi, (hbd.2.2.2.2 i hi).1⟩⟩
                          have HL : Hid (∀ i, i < n → L i ≤ 1048576) := fun i hi => (hbd.2.2.2.2 i hi).1
                          have hn6 : n ≤ 65536 := by omega
                          clear hk0 hk1 hp ha hst hs hnn
                          go_wp2_with fail
                          refine (build_any a0 a1 a2 n c0 c1 c2 P A L C T S w hn6 hin).mono ?_
                          rintro e w1 ⟨ac, Ab, Cb, rfl, b1, f1⟩
                          go_wp2_with fail
                          refine (zzclone_any (some ac) n n P Ab L Cb T S w1 hn6 f1.toCA HL.out).mono ?_
                          rintro e w2 ⟨aw, cw, Aw, Cw, rfl, b2, iw, fw⟩
                          have ca2 : CA w2 (some ac) n P Ab L Cb T S := f1.toCA.below b2 (Nat.le_refl _)
                          go_wp2_with fail
                          refine (zzclone_any (some ac) m n P Ab L Cb T S w2 (by omega) (ca2.take m hmn) (fun i hi => HL.out i (by omega))).mono ?_
                          rintro e w3 ⟨al, cl, Al, Cl, rfl, b3, il, fl⟩
                          have ca3 : CA w3 (some ac) n P Ab L Cb T S := ca2.below b3 (Nat.le_refl _)
                          obtain ⟨X, hX, hsl⟩ : ∃ X : Option Addr, (m < n → X = some (ac.add (m * 3))) ∧ ∀ w : World, (Instr.slice 33 (.slice (some ac) n n) (some (.int .i64 (m : Int))) none none).run Try.prog w = .ok (.slice X (n - m) (n - m)) w := by
                            by_cases e : n = m
                            · refine ⟨some ac, fun h => absurd h (by omega), fun w => ?_⟩
                              subst e
                              go_simp
                            · refine ⟨some (ac.add (m * 3)), fun _ => rfl, fun w => ?_⟩
                              go_simp
                          have HX := hX
                          clear hX
                          go_wp2_with fail
                          refine (zzclone_any X (n - m) (n - m) (fun i => P (m + i)) (fun i => Ab (m + i)) (fun i => L (m + i)) (fun i => Cb (m + i)) (fun i => T (m + i)) (fun i => S (m + i)) w3 (by omega) (ca3.drop m hmn X (fun hlt B o h => by
                            rw [HX hlt]
                            simp only [Option.some.injEq] at h
                            rw [h, Addr.add_lit])) (fun i hi => HL.out (m + i) (by omega))).mono ?_
                          rintro e w4 ⟨ar, cr, Ar, Cr, rfl, b4, ir, fr⟩
                          have hq := Try.eqNil33
                          have hw0 : (aw.isNone == ((n : Int) == 0)) = true := by rw [iw]; by_cases e : n = 0 <;> simp [e]
                          have hl0 : (al.isNone == ((m : Int) == 0)) = true := by rw [il]; by_cases e : m = 0 <;> simp [e]
                          have hr0 : (ar.isNone == ((m : Int) == (n : Int))) = true := by
                            rw [ir]
                            by_cases e : m = n
                            · subst e; simp
                            · have h1 : ¬ n - m = 0 := by omega
                              have h2 : ¬ (m : Int) = n := by omega
                              simp [h1, h2]
                          have hlen : ((n : Int) != (m : Int) + ((n - m : Nat) : Int)) = false := by simp; omega
                          have b14 : Below w1.heap.size w1 w4 := (b2.trans (b3.mono b2.size)).trans (b4.mono (Nat.le_trans b2.size b3.size))
                          have fw4 : FCA w4 w1.heap.size aw n P Aw L Cw T S := (fw.below b3 (Nat.le_refl _)).below b4 (Nat.le_refl _)
                          have fl4 : FCA w4 w2.heap.size al m P Al L Cl T S := fl.below b4 (Nat.le_refl _)
                          have HIN : Hid (IN w1 a0 a1 a2 n P A L C T S) := hin.below b1 (Nat.le_refl _)
                          have hS : Hid (∀ i, i < n → ∀ j, j < L i → (S i j).size ≤ 1048576) := fun i hi => (hbd.2.2.2.2 i hi).2
                          clear iw il ir hin hbd fw fl ca2 ca3 b2 b3 b4 HX hsl
                          go_wp2
                          clear hw0 hl0 hr0 hlen hq
                          go_loopw [18] (fun i wr => ∃ k : Nat, k ≤ m ∧ i = .int .i64 k ∧ Below w4.heap.size w4 wr) (fun i _ => m - (intOf i).toNat)
                          case atStart => exact ⟨0, by omega, rfl, Below.refl _ _⟩
                          case round =>
                            obtain ⟨i1, hi1, rfl, hbel⟩ := hrel
                            by_cases hlt1 : i1 < m
                            · rcases fw4.below hbel (Nat.le_refl _) with h0 | ⟨BW, rfl, x1, x2, x3⟩
                              · omega
                              rcases fl4.below hbel (Nat.le_refl _) with h0 | ⟨BL, rfl, y1, y2, y3⟩
                              · omega
                              obtain ⟨⟨d0, d1, d2⟩, ds, -⟩ := x3 i1 (by omega)
                              obtain ⟨⟨c0', c1', c2'⟩, cs', -⟩ := y3 i1 hlt1
                              have HS1 : Hid (SlV wr (Aw i1) (L i1) (fun j => .string (S i1 j))) := ds.toSlV
                              have HS2 : Hid (SlV wr (Al i1) (L i1) (fun j => .string (S i1 j))) := cs'.toSlV
                              have HLi : Hid (L i1 ≤ 1048576) := HL.out i1 (by omega)
                              have hlt1' : (i1 : Int) < m := by omega
                              have hlt1'' : (i1 : Int) < n := by omega
                              clear ds cs' x3 y3
                              go_wp2
                              go_region_held3 (fun w' => w'.cell? ⟨BW, i1 * 3, none⟩ = some (.string (P i1)) ∧ w'.cell? ⟨BW, i1 * 3 + 1, none⟩ = some (.slice (Aw i1) (L i1) (Cw i1)) ∧ w'.cell? ⟨BW, i1 * 3 + 2, none⟩ = some (.int .i64 (T i1)) ∧ w'.cell? ⟨BL, i1 * 3, none⟩ = some (.string (P i1)) ∧ w'.cell? ⟨BL, i1 * 3 + 1, none⟩ = some (.slice (Al i1) (L i1) (Cl i1)) ∧ w'.cell? ⟨BL, i1 * 3 + 2, none⟩ = some (.int .i64 (T i1))) (go_keep) ((go_at_call 15; refine (same_any (P i1) (T i1) (L i1) (Aw i1) (Al i1) (Cw i1) (Cl i1) (S i1) _ (by exact SlV.congr HS1.out rfl) (by exact SlV.congr HS2.out rfl) HLi.out).mono ?_; rintro e w5 ⟨rfl, hb5⟩; have z0 := (hb5.cell (p := ⟨BW, i1 * 3, none⟩) (by exact x2)).trans d0; have z1 := (hb5.cell (p := ⟨BW, i1 * 3 + 1, none⟩) (by exact x2)).trans d1; have z2 := (hb5.cell (p := ⟨BW, i1 * 3 + 2, none⟩) (by exact x2)).trans d2; have z3 := (hb5.cell (p := ⟨BL, i1 * 3, none⟩) (by exact y2)).trans c0'; have z4 := (hb5.cell (p := ⟨BL, i1 * 3 + 1, none⟩) (by exact y2)).trans c1'; have z5 := (hb5.cell (p := ⟨BL, i1 * 3 + 2, none⟩) (by exact y2)).trans c2'))
                              have hbel5 : Below w4.heap.size w4 w5 := (hbel.drew).trans (hb5.mono hbel.size)
                              clear hb5 z0 z1 z2 z3 z4 z5 d0 d1 d2 c0' c1' c2'
                              go_wp2
                              go_roundw
                              case rel => first | exact ⟨i1 + 1, by omega, by go_num, hbel5⟩ | ((repeat apply Exists.intro); exact ⟨⟨i1 + 1, by omega, by go_num, hbel5⟩, rfl⟩)
                              case measure => simp [intOf]; omega
                            · have hlt1' : ¬ (i1 : Int) < m := by omega
                              obtain ⟨wA, rfl⟩ : ∃ wA : World, wA = wr := ⟨_, rfl⟩
                              go_wp2
                              go_loopw [19] (fun i wr => ∃ k : Nat, k ≤ n - m ∧ i = .int .i64 k ∧ Below w4.heap.size w4 wr) (fun i _ => (n - m) - (intOf i).toNat)
                              case atStart => exact ⟨0, by omega, rfl, hbel⟩
                              case round =>
                                clear hbel
                                obtain ⟨i2, hi2, rfl, hbel⟩ := hrel
                                by_cases hlt2 : i2 < n - m
                                · rcases fw4.below hbel (Nat.le_refl _) with h0 | ⟨BW, rfl, x1, x2, x3⟩
                                  · omega
                                  rcases fr.below hbel (Nat.le_refl _) with h0 | ⟨BR, rfl, y1, y2, y3⟩
                                  · omega
                                  obtain ⟨⟨d0, d1, d2⟩, ds, -⟩ := x3 (m + i2) (by omega)
                                  obtain ⟨⟨c0', c1', c2'⟩, cs', -⟩ := y3 i2 hlt2
                                  have HS1 : Hid (SlV wr (Aw (m + i2)) (L (m + i2)) (fun j => .string (S (m + i2) j))) := ds.toSlV
                                  have HS2 : Hid (SlV wr (Ar i2) (L (m + i2)) (fun j => .string (S (m + i2) j))) := cs'.toSlV
                                  have HLi : Hid (L (m + i2) ≤ 1048576) := HL.out (m + i2) (by omega)
                                  have hlt2' : (i2 : Int) < ((n - m : Nat) : Int) := by omega
                                  have hlt2'' : (m : Int) + (i2 : Int) < n := by omega
                                  have hlt20 : 0 ≤ (m : Int) + (i2 : Int) := by omega
                                  have htn : ((m : Int) + (i2 : Int)).toNat = m + i2 := by omega
                                  have hwrp : IntKind.i64.wrap ((m : Int) + (i2 : Int)) = (m : Int) + (i2 : Int) := by rw [IntKind.wrap_i64]; omega
                                  clear ds cs' x3 y3
                                  go_wp2
                                  go_region_held3 (fun w' => w'.cell? ⟨BW, (m + i2) * 3, none⟩ = some (.string (P (m + i2))) ∧ w'.cell? ⟨BW, (m + i2) * 3 + 1, none⟩ = some (.slice (Aw (m + i2)) (L (m + i2)) (Cw (m + i2))) ∧ w'.cell? ⟨BW, (m + i2) * 3 + 2, none⟩ = some (.int .i64 (T (m + i2))) ∧ w'.cell? ⟨BR, i2 * 3, none⟩ = some (.string (P (m + i2))) ∧ w'.cell? ⟨BR, i2 * 3 + 1, none⟩ = some (.slice (Ar i2) (L (m + i2)) (Cr i2)) ∧ w'.cell? ⟨BR, i2 * 3 + 2, none⟩ = some (.int .i64 (T (m + i2)))) (go_keep) ((go_at_call 15; refine (same_any (P (m + i2)) (T (m + i2)) (L (m + i2)) (Aw (m + i2)) (Ar i2) (Cw (m + i2)) (Cr i2) (S (m + i2)) _ (by exact SlV.congr HS1.out rfl) (by exact SlV.congr HS2.out rfl) HLi.out).mono ?_; rintro e w5 ⟨rfl, hb5⟩; have z0 := (hb5.cell (p := ⟨BW, (m + i2) * 3, none⟩) (by exact x2)).trans d0; have z1 := (hb5.cell (p := ⟨BW, (m + i2) * 3 + 1, none⟩) (by exact x2)).trans d1; have z2 := (hb5.cell (p := ⟨BW, (m + i2) * 3 + 2, none⟩) (by exact x2)).trans d2; have z3 := (hb5.cell (p := ⟨BR, i2 * 3, none⟩) (by exact y2)).trans c0'; have z4 := (hb5.cell (p := ⟨BR, i2 * 3 + 1, none⟩) (by exact y2)).trans c1'; have z5 := (hb5.cell (p := ⟨BR, i2 * 3 + 2, none⟩) (by exact y2)).trans c2'))
                                  have hbel5 : Below w4.heap.size w4 w5 := (hbel.drew).trans (hb5.mono hbel.size)
                                  clear hb5 z0 z1 z2 z3 z4 z5 d0 d1 d2 c0' c1' c2'
                                  go_wp2
                                  go_roundw
                                  case rel => first | exact ⟨i2 + 1, by omega, by go_num, hbel5⟩ | ((repeat apply Exists.intro); exact ⟨⟨i2 + 1, by omega, by go_num, hbel5⟩, rfl⟩)
                                  case measure => simp [intOf]; omega
                                · have hlt2' : ¬ (i2 : Int) < ((n - m : Nat) : Int) := by omega
                                  have fw5 := fw4.below hbel (Nat.le_refl _)
                                  have b15 : Below w1.heap.size w1 wr := b14.trans (hbel.mono b14.size)
                                  have in5 : IN wr a0 a1 a2 n P A L C T S := HIN.out.below b15 (Nat.le_refl _)
                                  clear fw4 fl4 fr hbel b14
                                  obtain ⟨wB, rfl⟩ : ∃ wB : World, wB = wr := ⟨_, rfl⟩
                                  go_wp2_with fail
                                  refine (matches_any aw a0 a1 a2 n cw c0 c1 c2 P A L C Aw Cw T S wB hn6 in5 fw5.toCA).mono ?_
                                  rintro e w6 ⟨rfl, q6, rfl⟩
                                  clear in5
                                  go_wp2
                                  rcases Nat.eq_zero_or_pos n with hn0 | hnpos
                                  · go_loopw [20] (fun i wr => i = .int .i64 0 ∧ Below w1.heap.size w1 wr) (fun _ _ => 0)
                                    case atStart => exact ⟨rfl, below_drewN b15 _⟩
                                    case round =>
                                      obtain ⟨rfl, hb7⟩ := hrel
                                      have hz0' : ¬ (0 : Int) < n := by omega
                                      have ca7 : CA wr (some ac) n P Ab L Cb T S := .inl hn0
                                      have in7 : IN wr a0 a1 a2 n P A L C T S := HIN.out.below hb7 (Nat.le_refl _)
                                      clear hn0
                                      go_wp2_with fail
                                      refine (matches_any (some ac) a0 a1 a2 n n c0 c1 c2 P A L C Ab Cb T S wr hn6 in7 ca7).mono ?_
                                      rintro e w8 ⟨rfl, q8, rfl⟩
                                      go_wp2
                                      go_ret
                                      exact ⟨rfl, below_drewN (b1.trans (hb7.mono b1.size)) _⟩
                                  · rcases id fw5 with h0 | ⟨BW, rfl, x1, x2, -⟩
                                    · omega
                                    have hwh : Wh wB BW n Aw L Cw 0 := Wh.ofFCA fw5 hS.out
                                    clear fw5
                                    go_loopw [20] (fun i wr => ∃ (k t : Nat), k ≤ n ∧ t ≤ 1048576 * k ∧ i = .int .i64 k ∧ Below w1.heap.size w1 wr ∧ Wh wr BW n Aw L Cw t) (fun i _ => n - (intOf i).toNat)
                                    case atStart => exact ⟨0, 0, by omega, by omega, rfl, below_drewN b15 _, hwh.drewN _⟩
                                    case round =>
                                      clear hwh
                                      obtain ⟨i3, t3', hi3, ht3, rfl, hb7, hwh⟩ := hrel
                                      by_cases hlt3 : i3 < n
                                      · have hlt3' : (i3 : Int) < n := by omega
                                        have hL3 := HL.out i3 hlt3
                                        go_wp2
                                        obtain ⟨wC, rfl⟩ : ∃ wC : World, wC = wr := ⟨_, rfl⟩
                                        go_loopw [21] (fun i wr => ∃ (j t : Nat), j ≤ L i3 ∧ t ≤ 1048576 * i3 + j ∧ i = .int .i64 j ∧ Below w1.heap.size w1 wr ∧ Wh wr BW n Aw L Cw t) (fun i _ => L i3 - (intOf i).toNat)
                                        case atStart => exact ⟨0, t3', by omega, by omega, rfl, hb7, hwh⟩
                                        case round =>
                                          clear hb7 hwh
                                          obtain ⟨j3, t4, hj3, ht4, rfl, hb8, hwh⟩ := hrel
                                          have g1 := hwh.cell i3 hlt3
                                          by_cases hlt4 : j3 < L i3
                                          · have hlt4' : (j3 : Int) < L i3 := by omega
                                            rcases hwh.strs i3 hlt3 with h0 | ⟨Bx, ox, ex, hx1, hx2⟩
                                            · omega
                                            obtain ⟨hfz, s, hcs, hss⟩ := hx2 j3 hlt4
                                            have HST := hwh.store hlt3 hlt4 ex
                                            have hne : ¬ Bx = BW := by omega
                                            have hne2 : ¬ BW = Bx := by omega
                                            rw [ex] at g1
                                            clear hx2 ex hwh
                                            go_wp2
                                            go_region
                                            all_goals (
                                              have hst := (HST (s ++ ⟨#[33]⟩) (by rw [size_bang]; omega)).drew
                                              have hb9 := (hb8.setCell (p := ⟨Bx, ox + j3, none⟩) (by show w1.heap.size ≤ Bx; omega) (.string (s ++ ⟨#[33]⟩))).drew
                                              clear HST
                                              go_wp2
                                              go_roundw
                                              case rel => first | exact ⟨j3 + 1, t4 + 1, by omega, by omega, by go_num, hb9, hst⟩ | ((repeat apply Exists.intro); exact ⟨⟨j3 + 1, t4 + 1, by omega, by omega, by go_num, hb9, hst⟩, rfl⟩)
                                              case measure => simp [intOf]; omega)
                                          · have hlt4' : ¬ (j3 : Int) < L i3 := by omega
                                            go_wp2
                                            go_roundw
                                            case rel => first | exact ⟨i3 + 1, t4, by omega, by omega, by go_num, hb8, hwh⟩ | ((repeat apply Exists.intro); exact ⟨⟨i3 + 1, t4, by omega, by omega, by go_num, hb8, hwh⟩, rfl⟩)
                                            case measure => simp [intOf]; omega
                                      · have hlt3' : ¬ (i3 : Int) < n := by omega
                                        have ca7 : CA wr (some ac) n P Ab L Cb T S := f1.toCA.below hb7 (Nat.le_refl _)
                                        have in7 : IN wr a0 a1 a2 n P A L C T S := HIN.out.below hb7 (Nat.le_refl _)
                                        clear hwh
                                        go_wp2_with fail
                                        refine (matches_any (some ac) a0 a1 a2 n n c0 c1 c2 P A L C Ab Cb T S wr hn6 in7 ca7).mono ?_
                                        rintro e w8 ⟨rfl, q8, rfl⟩
                                        go_wp2
                                        go_ret
                                        exact ⟨rfl, below_drewN (b1.trans (hb7.mono b1.size)) _⟩
                    · go_wp2
                      go_ret
                      exact ⟨rfl, Below.refl _ _⟩
              · go_wp2
                go_loop [9, 11, 12] (fun b i _ => b = .int .i64 z ∧ i = .int .i64 0) (fun _ _ _ => 0)
                case atStart => exact ⟨rfl, rfl⟩
                case round =>
                  obtain ⟨rfl, rfl⟩ := hrel
                  by_cases q0 : 0 < n
                  · have q1 : (0 : Int) < n := by omega
                    have q2 : ¬ z ≤ 1048576 := by omega
                    go_wp2
                    go_ret
                    exact ⟨rfl, Below.refl _ _⟩
                  · have q1 : decide ((0 : Int) < (n : Int)) = false := by simp; omega
                    go_wp2
                    go_ret
                    exact ⟨rfl, Below.refl _ _⟩

end Go.Proofs.Qxb6003656a
