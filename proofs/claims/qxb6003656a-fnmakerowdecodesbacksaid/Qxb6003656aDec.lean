import Derived.Test.Qxb6003656aDecP
namespace Go.Proofs.Qxb6003656a
open Go.RowKit

/-- What the row holds, with no encoder in sight: rw its bytes, O the fields' offsets. -/
structure RowHolds (row key : ByteArray) (n : Nat) (K : Nat → Nat) (T : Nat → Int) (S : Nat → ByteArray) (O : Nat → Nat) : Prop where
  ends : O n = row.size
  begins : O 0 = key.size
  le : ∀ k, k ≤ n → O k ≤ O n
  key : ∀ i, i < key.size → byt row i = byt key i
  int : ∀ k, k < n → K k = 1 → byt row (O k) = 1 ∧ (∀ j, j < 8 → byt row (O k + 1 + j) = IntKind.u64.wrap (T k) / 2 ^ (8 * j) % 256) ∧ O (k + 1) = O k + 9
  text : ∀ k, k < n → K k = 2 → ∀ L, uv (S k).size = L → byt row (O k) = 2 ∧ (∀ j (hj : j < L.length), byt row (O k + 1 + j) = ((L[j]'hj).toNat : Int)) ∧
    (∀ j, j < (S k).size → byt row (O k + 1 + L.length + j) = byt (S k) j) ∧ O (k + 1) = O k + 1 + L.length + (S k).size

theorem rowHolds (key : ByteArray) (n : Nat) (K : Nat → Nat) (T : Nat → Int) (S : Nat → ByteArray) : RowHolds (strOf (pre key K T S n)) key n K T S (off key K T S) where
  ends := by rw [strOf_size]; rfl
  begins := off_zero key K T S
  le := fun k hk => off_le key K T S n k hk
  key := fun i hi => row_key key K T S n i hi
  int := fun k hk h1 => row_int key K T S n k hk h1
  text := fun k hk h1 L hL => row_text key K T S n k hk h1 L hL

/-- The number's lowest j bytes. -/
def accv (t : Int) (j : Nat) : Nat := tw t % 2 ^ (8 * j)

theorem accv_zero (t : Int) : accv t 0 = 0 := by simp [accv, Nat.mod_one]

theorem u64_fits (n : Int) (h₀ : 0 ≤ n) (h₁ : n < 2 ^ 64) : IntKind.u64.wrap n = n := by
  show n % (2 ^ 64 : Int) = n
  exact Int.emod_eq_of_lt h₀ h₁
theorem i64_fits (n : Int) (h₀ : 0 ≤ n) (h₁ : n < 2 ^ 40) : IntKind.i64.wrap n = n := by
  rw [IntKind.wrap_i64]; omega

theorem or_low (k : IntKind) (j : Nat) (hj : j ≤ k.bits) (hk : ∀ n : Int, 0 ≤ n → n < 2 ^ j → k.wrap n = n) (i a h : Nat) (ha : a < 2 ^ i) (hij : 2 ^ i * h < 2 ^ j) (hi : i ≤ j) :
    bits .or k (a : Int) ((2 ^ i * h : Nat) : Int) = ((a + 2 ^ i * h : Nat) : Int) := by
  rw [(bits_nat k j hj hk a (2 ^ i * h) (Nat.lt_of_lt_of_le ha (Nat.pow_le_pow_right (by decide) hi)) hij).2, Nat.or_comm, ← Nat.two_pow_add_eq_or_of_lt ha, Nat.add_comm]

theorem accv_step (t : Int) (j : Nat) (hj : j < 8) :
    bits .or .u64 ((accv t j : Nat) : Int) (IntKind.u64.wrap (IntKind.u64.wrap t / 2 ^ (8 * j) % 256 * 2 ^ (8 * j))) = ((accv t (j + 1) : Nat) : Int) := by
  have hx : IntKind.u64.wrap t / 2 ^ (8 * j) % 256 * 2 ^ (8 * j) = ((2 ^ (8 * j) * (tw t / 2 ^ (8 * j) % 256) : Nat) : Int) := by
    rw [← tw_int, Int.natCast_mul, Int.natCast_emod, Int.natCast_ediv, Int.natCast_pow, Int.mul_comm]
    rfl
  have hp : 2 ^ (8 * j) * (tw t / 2 ^ (8 * j) % 256) < 2 ^ 64 := by
    have h1 : tw t / 2 ^ (8 * j) % 256 < 2 ^ 8 := Nat.mod_lt _ (by decide)
    have h2 : 2 ^ (8 * j) * (tw t / 2 ^ (8 * j) % 256) < 2 ^ (8 * j) * 2 ^ 8 := Nat.mul_lt_mul_of_pos_left h1 (Nat.two_pow_pos _)
    rw [← Nat.pow_add] at h2
    exact Nat.lt_of_lt_of_le h2 (Nat.pow_le_pow_right (by decide) (by omega))
  rw [hx, u64_fits _ (Int.natCast_nonneg _) (by exact_mod_cast hp)]
  unfold accv
  rw [or_low .u64 64 (by decide) u64_fits (8 * j) (tw t % 2 ^ (8 * j)) (tw t / 2 ^ (8 * j) % 256) (Nat.mod_lt _ (Nat.two_pow_pos _)) hp (by omega)]
  rw [show 8 * (j + 1) = 8 * j + 8 by omega, Nat.pow_add, Nat.mod_mul]

theorem wrap64_fits (n : Int) (h₀ : 0 ≤ n) (h₁ : n < 2 ^ 40) : wrap64 n = n := by
  unfold wrap64
  omega

theorem mask127 (v : Nat) (hv : v < 256) : bits .and .u8 (v : Int) 127 = ((v % 128 : Nat) : Int) := by
  have := bits_mask .u8 8 (by decide) wraps_u8 7 (by decide) (v : Int) (by omega) (by omega)
  rw [show ((2 : Int) ^ 7 - 1) = 127 from rfl] at this
  rw [this]
  omega

theorem st0 (v : Nat) (hv : v < 256) : bits .or .i64 0 (wrap64 (wrap64 (bits .and .u8 (v : Int) 127))) = (v : Int) % 128 := by
  rw [mask127 v hv, wrap64_fits ((v % 128 : Nat) : Int) (by omega) (by omega), wrap64_fits _ (by omega) (by omega)]
  have := or_low .i64 40 (by decide) i64_fits 0 0 (v % 128) (by decide) (by omega) (by decide)
  simpa using this

theorem st1 (a : Int) (v : Nat) (h0 : 0 ≤ a) (ha : a < 128) (hv : v < 256) : bits .or .i64 a (wrap64 (wrap64 (bits .and .u8 (v : Int) 127) * 128)) = a + 128 * ((v : Int) % 128) := by
  obtain ⟨a, rfl⟩ := Int.eq_ofNat_of_zero_le h0
  rw [mask127 v hv, wrap64_fits ((v % 128 : Nat) : Int) (by omega) (by omega), wrap64_fits _ (by omega) (by omega)]
  have := or_low .i64 40 (by decide) i64_fits 7 a (v % 128) (by omega) (by omega) (by decide)
  rw [show ((v % 128 : Nat) : Int) * 128 = ((2 ^ 7 * (v % 128) : Nat) : Int) by omega, this]
  omega

theorem st2 (a : Int) (v : Nat) (h0 : 0 ≤ a) (ha : a < 16384) (hv : v < 256) : bits .or .i64 a (wrap64 (wrap64 (bits .and .u8 (v : Int) 127) * 16384)) = a + 16384 * ((v : Int) % 128) := by
  obtain ⟨a, rfl⟩ := Int.eq_ofNat_of_zero_le h0
  rw [mask127 v hv, wrap64_fits ((v % 128 : Nat) : Int) (by omega) (by omega), wrap64_fits _ (by omega) (by omega)]
  have := or_low .i64 40 (by decide) i64_fits 14 a (v % 128) (by omega) (by omega) (by decide)
  rw [show ((v % 128 : Nat) : Int) * 16384 = ((2 ^ 14 * (v % 128) : Nat) : Int) by omega, this]
  omega

theorem val0 (z v : Nat) (hv : v < 256) (hl : (v : Int) < 128) (hz : Hid (v = z)) {x : Int} (h : x = bits .or .i64 0 (wrap64 (wrap64 (bits .and .u8 (v : Int) 127))) ∨ (v = 0 ∧ x = bits .or .i64 0 (wrap64 (wrap64 (bits .and .u8 0 127))))) : Value.int .i64 x = .int .i64 z := by
  have := hz.out
  rcases h with rfl | ⟨rfl, rfl⟩
  · rw [st0 v hv]; congr 1; omega
  · have := st0 0 (by omega)
    rw [show ((0 : Nat) : Int) = 0 from rfl] at this
    rw [this]; congr 1; omega

/-- A number that fits is read back from its eight bytes. -/
def Fits (t : Int) : Prop := wrap64 (accv t 8 : Nat) = t

set_option maxHeartbeats 4000000 in
set_option maxRecDepth 100000 in
theorem decodes_any (row key : ByteArray) (a1 a2 a3 : Option Addr) (n c1 c2 c3 : Nat) (K : Nat → Nat) (T : Nat → Int) (S : Nat → ByteArray) (O : Nat → Nat) (w : World)
   (hdom : Dom n K S) (hin : INR w a1 a2 a3 n K T S) (hr : RowHolds row key n K T S O) (hT : ∀ i, i < n → Fits (T i)) (hsz : row.size ≤ 1099511627776) :
    Calls Try.prog 20 #[.string row, .string key, .slice a1 n c1, .slice a2 n c2, .slice a3 n c3] w fun e w' => e = .returned (.bool true) ∧ Drawn w w' := by
  have hkr : key.size ≤ row.size := by
    have h1 := hr.ends
    have h2 := hr.begins
    have h3 := hr.le 0 (by omega)
    omega
  have gr := get_byt row
  have gk := get_byt key
  have hkr' : ¬ (row.size : Int) < key.size := by omega
  go_enter Try.func20, Try.ntmps20
  go_wp2
  go_loopw [11] (fun i wr => ∃ k q : Nat, k ≤ key.size ∧ i = .int .i64 k ∧ wr = w.drewN q) (fun i _ => key.size - (intOf i).toNat)
  case atStart => exact ⟨0, 0, by omega, rfl, rfl⟩
  case round =>
    obtain ⟨k, q, hk, rfl, rfl⟩ := hrel
    by_cases hlt : k < key.size
    · have hlt' : (k : Int) < key.size := by omega
      have hlt2 : (k : Int) < row.size := by omega
      have hb := hr.key k hlt
      clear hin hr
      go_wp2
      go_quiet (fail)
      go_wp2
      go_roundw
      case rel => exact ⟨k + 1, q + nq, by omega, by go_num, by simp⟩
      case measure => simp [intOf]; omega
    · obtain rfl : key.size = k := by omega
      have hlt' : ¬ (key.size : Int) < key.size := by omega
      go_wp2
      go_loopw [12, 13] (fun p f wr => ∃ k q : Nat, k ≤ n ∧ f = .int .i64 k ∧ p = .int .i64 (O k : Nat) ∧ wr = w.drewN q) (fun _ f _ => n - (intOf f).toNat)
      case atStart => exact ⟨0, q, by omega, rfl, by rw [hr.begins], rfl⟩
      case round =>
        obtain ⟨k, q, hk, rfl, rfl, rfl⟩ := hrel
        have hOk := hr.le k hk
        rw [hr.ends] at hOk
        by_cases hlt : k < n
        · rcases hin.kinds with h0 | ⟨Bp, op, rfl, hp⟩
          · omega
          rcases hin.nums with h0 | ⟨Ba, oa, rfl, ha⟩
          · omega
          rcases hin.strs with h0 | ⟨Bs, os, rfl, hs⟩
          · omega
          have g1 : w.cell? ⟨Bp, op + k, none⟩ = some (.int .u8 (K k)) := hp k hlt
          have g2 : w.cell? ⟨Ba, oa + k, none⟩ = some (.int .i64 (T k)) := ha k hlt
          have g3 : w.cell? ⟨Bs, os + k, none⟩ = some (.string (S k)) := hs k hlt
          have hO1 := hr.le (k + 1) hlt
          rw [hr.ends] at hO1
          obtain ⟨hn, hd⟩ := hdom
          obtain ⟨hKk, hSk⟩ := hd k hlt
          have hlt' : (k : Int) < n := by omega
          clear hp ha hs hin hd
          rcases hKk with h1 | h1
          · rw [h1] at g1
            obtain ⟨b0, bj, hO2⟩ := hr.int k hlt h1
            have hp1 : (O k : Int) < row.size := by omega
            have hp4 : ¬ (row.size : Int) - ((O k : Int) + 1) < 8 := by omega
            have BJ : Hid (∀ j, j < 8 → byt row (O k + 1 + j) = IntKind.u64.wrap (T k) / 2 ^ (8 * j) % 256) := bj
            clear bj hr
            go_wp2
            have hp2 : decide (row.size ≤ O k) = false := by simp; omega
            go_quiet (fail)
            go_wp2
            generalize hQ : q + nq = Q
            go_loopw [14, 15] (fun u i wr => ∃ j : Nat, j ≤ 8 ∧ i = .int .i64 j ∧ u = .int .u64 (accv (T k) j : Nat) ∧ wr = w.drewN Q) (fun _ i _ => 8 - (intOf i).toNat)
            case atStart => exact ⟨0, by omega, rfl, by rw [accv_zero]; rfl, rfl⟩
            case round =>
              obtain ⟨j, hj, rfl, rfl, rfl⟩ := hrel
              by_cases hj8 : j < 8
              · have hj' : (j : Int) < 8 := by omega
                have hb := BJ.out j hj8
                have hix : (O k : Int) + 1 + j < row.size := by omega
                clear BJ
                go_wp2
                go_roundw
                case rel => exact ⟨j + 1, by omega, by go_num, by rw [accv_step _ _ hj8], trivial⟩
                case measure => simp [intOf]; omega
              · obtain rfl : j = 8 := by omega
                have hj' : ¬ (((8 : Nat) : Int)) < 8 := by omega
                have hf : wrap64 (accv (T k) 8 : Nat) = T k := hT k hlt
                clear BJ
                go_wp2
                go_roundw
                case rel => exact ⟨k + 1, Q, by omega, by go_num, by rw [hO2]; go_num, rfl⟩
                case measure => simp [intOf]; omega
          · rw [h1] at g1
            have hp1 : (O k : Int) < row.size := by
              have := (hr.text k hlt h1 _ rfl).2.2.2
              omega
            have gs := get_byt (S k)
            rcases Nat.lt_or_ge (S k).size 128 with hz1 | hz1
            · obtain ⟨b0, bj, bs, hO2⟩ := hr.text k hlt h1 _ (uv_lt (n := (S k).size) hz1)
              have y0 := bj 0 (by simp)
              simp only [List.length_cons, List.length_nil, Nat.zero_add, Nat.add_zero, List.getElem_cons_zero, UInt8.toNat_ofNat'] at y0 bs hO2
              obtain ⟨v0, E0⟩ : ∃ v : Nat, Hid (v = (S k).size) := ⟨_, rfl⟩
              rw [show ((S k).size) % 2 ^ 8 = v0 by have := E0.out; omega] at y0
              have x0 : v0 < 256 := by have := E0.out; omega
              have i0 : (O k : Int) + 1 < row.size := by omega
              have l0 : (v0 : Int) < 128 := by have := E0.out; omega
              have hp7 : ¬ (row.size : Int) - ((O k : Int) + 1 + 1) < (S k).size := by omega
              have BS : Hid (∀ j, j < (S k).size → byt row (O k + 1 + 1 + j) = byt (S k) j) := bs
              clear bj hr hT bs
              go_wp2
              have hp2 : decide (row.size ≤ O k) = false := by simp; omega
              go_quiet (fail)
              go_wp2
              generalize hQ : q + nq = Q
              go_loopw [12, 16, 17, 18, 19] (fun p a sh d st wr => wr = w.drewN Q ∧ ((p = .int .i64 ((O k : Int) + 1) ∧ a = .int .i64 (0 : Int) ∧ sh = .int .u64 0 ∧ d = .bool false ∧ st = .int .i64 0) ∨ (p = .int .i64 ((O k : Int) + 1 + 1) ∧ a = .int .i64 (S k).size ∧ sh = .int .u64 7 ∧ d = .bool true ∧ st = .int .i64 1))) (fun _ _ _ _ st _ => 4 - (intOf st).toNat)
              case atStart => exact ⟨rfl, .inl ⟨rfl, rfl, rfl, rfl, rfl⟩⟩
              case round =>
                obtain ⟨rfl, hst⟩ := hrel
                rcases hst with ⟨rfl, rfl, rfl, rfl, rfl⟩ | ⟨rfl, rfl, rfl, rfl, rfl⟩
                · go_wp2
                  all_goals (
                    go_roundw
                    case rel => exact ⟨trivial, .inr ⟨rfl, val0 (S k).size v0 x0 l0 E0 (by first | exact .inl rfl | exact .inr ⟨by assumption, rfl⟩), rfl, rfl, rfl⟩⟩
                    case measure => simp [intOf])
                · go_wp2
                  go_loopw [22] (fun i wr => ∃ j q : Nat, j ≤ (S k).size ∧ i = .int .i64 j ∧ wr = w.drewN q) (fun i _ => (S k).size - (intOf i).toNat)
                  case atStart => exact ⟨0, Q, by omega, rfl, rfl⟩
                  case round =>
                    obtain ⟨j, q2, hj, rfl, rfl⟩ := hrel
                    by_cases hjl : j < (S k).size
                    · have hjl' : (j : Int) < (S k).size := by omega
                      have hb := BS.out j hjl
                      have hix : (O k : Int) + 1 + 1 + j < row.size := by omega
                      clear BS
                      go_wp2
                      go_quiet (fail)
                      go_wp2
                      go_roundw
                      case rel => exact ⟨j + 1, q2 + nq, by omega, by go_num, by simp⟩
                      case measure => simp [intOf]; omega
                    · obtain rfl : (S k).size = j := by omega
                      have hjl' : ¬ ((S k).size : Int) < (S k).size := by omega
                      clear BS
                      go_wp2
                      go_roundw
                      case rel => exact ⟨k + 1, q2, by omega, by go_num, by rw [hO2]; go_num, rfl⟩
                      case measure => simp [intOf]; omega
            rcases Nat.lt_or_ge (S k).size 16384 with hz2 | hz2
            · obtain ⟨b0, bj, bs, hO2⟩ := hr.text k hlt h1 _ (uv_two (n := (S k).size) hz1 hz2)
              have y0 := bj 0 (by simp)
              have y1 := bj 1 (by simp)
              simp only [List.length_cons, List.length_nil, Nat.zero_add, Nat.add_zero, List.getElem_cons_zero, List.getElem_cons_succ, UInt8.toNat_ofNat'] at y0 y1 bs hO2
              obtain ⟨v0, E0⟩ : ∃ v : Nat, Hid (v = (S k).size % 128 + 128) := ⟨_, rfl⟩
              rw [show ((S k).size % 128 + 128) % 2 ^ 8 = v0 by have := E0.out; omega] at y0
              have x0 : v0 < 256 := by have := E0.out; omega
              obtain ⟨v1, E1⟩ : ∃ v : Nat, Hid (v = (S k).size / 128) := ⟨_, rfl⟩
              rw [show ((S k).size / 128) % 2 ^ 8 = v1 by have := E1.out; omega] at y1
              have x1 : v1 < 256 := by have := E1.out; omega
              have i0 : (O k : Int) + 1 < row.size := by omega
              have l0 : ¬ (v0 : Int) < 128 := by have := E0.out; omega
              have i1 : (O k : Int) + 1 + 1 < row.size := by omega
              have l1 : (v1 : Int) < 128 := by have := E1.out; omega
              have m1 : ¬ (v1 : Int) = 0 := by have := E1.out; omega
              have hp7 : ¬ (row.size : Int) - ((O k : Int) + 1 + 1 + 1) < (S k).size := by omega
              have BS : Hid (∀ j, j < (S k).size → byt row (O k + 1 + 2 + j) = byt (S k) j) := bs
              clear bj hr hT bs
              go_wp2
              have hp2 : decide (row.size ≤ O k) = false := by simp; omega
              go_quiet (fail)
              go_wp2
              generalize hQ : q + nq = Q
              go_loopw [12, 16, 17, 18, 19] (fun p a sh d st wr => wr = w.drewN Q ∧ ((p = .int .i64 ((O k : Int) + 1) ∧ a = .int .i64 (0 : Int) ∧ sh = .int .u64 0 ∧ d = .bool false ∧ st = .int .i64 0) ∨ (p = .int .i64 ((O k : Int) + 1 + 1) ∧ a = .int .i64 ((v0 : Int) % 128) ∧ sh = .int .u64 7 ∧ d = .bool false ∧ st = .int .i64 1) ∨ (p = .int .i64 ((O k : Int) + 1 + 1 + 1) ∧ a = .int .i64 (S k).size ∧ sh = .int .u64 14 ∧ d = .bool true ∧ st = .int .i64 2))) (fun _ _ _ _ st _ => 4 - (intOf st).toNat)
              case atStart => exact ⟨rfl, .inl ⟨rfl, rfl, rfl, rfl, rfl⟩⟩
              case round =>
                obtain ⟨rfl, hst⟩ := hrel
                rcases hst with ⟨rfl, rfl, rfl, rfl, rfl⟩ | ⟨rfl, rfl, rfl, rfl, rfl⟩ | ⟨rfl, rfl, rfl, rfl, rfl⟩
                · go_wp2
                  go_roundw
                  case rel => exact ⟨trivial, .inr (.inl ⟨rfl, by rw [st0 v0 x0], rfl, rfl, rfl⟩)⟩
                  case measure => simp [intOf]
                · go_wp2
                  go_roundw
                  case rel => exact ⟨trivial, .inr (.inr ⟨rfl, by rw [st1 _ v1 (by omega) (by omega) x1]; congr 1; have := E0.out; have := E1.out; omega, rfl, rfl, rfl⟩)⟩
                  case measure => simp [intOf]
                · go_wp2
                  go_loopw [22] (fun i wr => ∃ j q : Nat, j ≤ (S k).size ∧ i = .int .i64 j ∧ wr = w.drewN q) (fun i _ => (S k).size - (intOf i).toNat)
                  case atStart => exact ⟨0, Q, by omega, rfl, rfl⟩
                  case round =>
                    obtain ⟨j, q2, hj, rfl, rfl⟩ := hrel
                    by_cases hjl : j < (S k).size
                    · have hjl' : (j : Int) < (S k).size := by omega
                      have hb := BS.out j hjl
                      have hix : (O k : Int) + 1 + 1 + 1 + j < row.size := by omega
                      clear BS
                      go_wp2
                      go_quiet (fail)
                      go_wp2
                      go_roundw
                      case rel => exact ⟨j + 1, q2 + nq, by omega, by go_num, by simp⟩
                      case measure => simp [intOf]; omega
                    · obtain rfl : (S k).size = j := by omega
                      have hjl' : ¬ ((S k).size : Int) < (S k).size := by omega
                      clear BS
                      go_wp2
                      go_roundw
                      case rel => exact ⟨k + 1, q2, by omega, by go_num, by rw [hO2]; go_num, rfl⟩
                      case measure => simp [intOf]; omega
            · obtain ⟨b0, bj, bs, hO2⟩ := hr.text k hlt h1 _ (uv_three (n := (S k).size) hz2 (by omega))
              have y0 := bj 0 (by simp)
              have y1 := bj 1 (by simp)
              have y2 := bj 2 (by simp)
              simp only [List.length_cons, List.length_nil, Nat.zero_add, Nat.add_zero, List.getElem_cons_zero, List.getElem_cons_succ, UInt8.toNat_ofNat'] at y0 y1 y2 bs hO2
              obtain ⟨v0, E0⟩ : ∃ v : Nat, Hid (v = (S k).size % 128 + 128) := ⟨_, rfl⟩
              rw [show ((S k).size % 128 + 128) % 2 ^ 8 = v0 by have := E0.out; omega] at y0
              have x0 : v0 < 256 := by have := E0.out; omega
              obtain ⟨v1, E1⟩ : ∃ v : Nat, Hid (v = (S k).size / 128 % 128 + 128) := ⟨_, rfl⟩
              rw [show ((S k).size / 128 % 128 + 128) % 2 ^ 8 = v1 by have := E1.out; omega] at y1
              have x1 : v1 < 256 := by have := E1.out; omega
              obtain ⟨v2, E2⟩ : ∃ v : Nat, Hid (v = (S k).size / 128 / 128) := ⟨_, rfl⟩
              rw [show ((S k).size / 128 / 128) % 2 ^ 8 = v2 by have := E2.out; omega] at y2
              have x2 : v2 < 256 := by have := E2.out; omega
              have i0 : (O k : Int) + 1 < row.size := by omega
              have l0 : ¬ (v0 : Int) < 128 := by have := E0.out; omega
              have i1 : (O k : Int) + 1 + 1 < row.size := by omega
              have l1 : ¬ (v1 : Int) < 128 := by have := E1.out; omega
              have i2 : (O k : Int) + 1 + 1 + 1 < row.size := by omega
              have l2 : (v2 : Int) < 128 := by have := E2.out; omega
              have m2 : ¬ (v2 : Int) = 0 := by have := E2.out; omega
              have hp7 : ¬ (row.size : Int) - ((O k : Int) + 1 + 1 + 1 + 1) < (S k).size := by omega
              have BS : Hid (∀ j, j < (S k).size → byt row (O k + 1 + 3 + j) = byt (S k) j) := bs
              clear bj hr hT bs
              go_wp2
              have hp2 : decide (row.size ≤ O k) = false := by simp; omega
              go_quiet (fail)
              go_wp2
              generalize hQ : q + nq = Q
              go_loopw [12, 16, 17, 18, 19] (fun p a sh d st wr => wr = w.drewN Q ∧ ((p = .int .i64 ((O k : Int) + 1) ∧ a = .int .i64 (0 : Int) ∧ sh = .int .u64 0 ∧ d = .bool false ∧ st = .int .i64 0) ∨ (p = .int .i64 ((O k : Int) + 1 + 1) ∧ a = .int .i64 ((v0 : Int) % 128) ∧ sh = .int .u64 7 ∧ d = .bool false ∧ st = .int .i64 1) ∨ (p = .int .i64 ((O k : Int) + 1 + 1 + 1) ∧ a = .int .i64 ((v0 : Int) % 128 + 128 * ((v1 : Int) % 128)) ∧ sh = .int .u64 14 ∧ d = .bool false ∧ st = .int .i64 2) ∨ (p = .int .i64 ((O k : Int) + 1 + 1 + 1 + 1) ∧ a = .int .i64 (S k).size ∧ sh = .int .u64 21 ∧ d = .bool true ∧ st = .int .i64 3))) (fun _ _ _ _ st _ => 4 - (intOf st).toNat)
              case atStart => exact ⟨rfl, .inl ⟨rfl, rfl, rfl, rfl, rfl⟩⟩
              case round =>
                obtain ⟨rfl, hst⟩ := hrel
                rcases hst with ⟨rfl, rfl, rfl, rfl, rfl⟩ | ⟨rfl, rfl, rfl, rfl, rfl⟩ | ⟨rfl, rfl, rfl, rfl, rfl⟩ | ⟨rfl, rfl, rfl, rfl, rfl⟩
                · go_wp2
                  go_roundw
                  case rel => exact ⟨trivial, .inr (.inl ⟨rfl, by rw [st0 v0 x0], rfl, rfl, rfl⟩)⟩
                  case measure => simp [intOf]
                · go_wp2
                  go_roundw
                  case rel => exact ⟨trivial, .inr (.inr (.inl ⟨rfl, by rw [st1 _ v1 (by omega) (by omega) x1], rfl, rfl, rfl⟩))⟩
                  case measure => simp [intOf]
                · go_wp2
                  go_roundw
                  case rel => exact ⟨trivial, .inr (.inr (.inr ⟨rfl, by rw [st2 _ v2 (by omega) (by omega) x2]; congr 1; have := E0.out; have := E1.out; have := E2.out; omega, rfl, rfl, rfl⟩))⟩
                  case measure => simp [intOf]
                · go_wp2
                  go_loopw [22] (fun i wr => ∃ j q : Nat, j ≤ (S k).size ∧ i = .int .i64 j ∧ wr = w.drewN q) (fun i _ => (S k).size - (intOf i).toNat)
                  case atStart => exact ⟨0, Q, by omega, rfl, rfl⟩
                  case round =>
                    obtain ⟨j, q2, hj, rfl, rfl⟩ := hrel
                    by_cases hjl : j < (S k).size
                    · have hjl' : (j : Int) < (S k).size := by omega
                      have hb := BS.out j hjl
                      have hix : (O k : Int) + 1 + 1 + 1 + 1 + j < row.size := by omega
                      clear BS
                      go_wp2
                      go_quiet (fail)
                      go_wp2
                      go_roundw
                      case rel => exact ⟨j + 1, q2 + nq, by omega, by go_num, by simp⟩
                      case measure => simp [intOf]; omega
                    · obtain rfl : (S k).size = j := by omega
                      have hjl' : ¬ ((S k).size : Int) < (S k).size := by omega
                      clear BS
                      go_wp2
                      go_roundw
                      case rel => exact ⟨k + 1, q2, by omega, by go_num, by rw [hO2]; go_num, rfl⟩
                      case measure => simp [intOf]; omega
        · obtain rfl : n = k := by omega
          have hlt' : ¬ (n : Int) < n := by omega
          have hOn := hr.ends
          rw [hOn]
          clear hin hr
          go_wp2
          go_ret
          exact ⟨rfl, q, rfl⟩

end Go.Proofs.Qxb6003656a
