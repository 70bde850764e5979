import Derived.Test.Qxb6003656aShelf
import Derived.Test.Qxb6003656aSame
import Derived.Laws.BitsLemmas
namespace Go.Proofs.Qxb6003656a
open Go.RowKit

/-- A number's 64 bits. -/
def tw (t : Int) : Nat := (IntKind.u64.wrap t).toNat
/-- The j-th byte of a number, the lowest first. -/
def le8 (t : Int) (j : Nat) : UInt8 := UInt8.ofNat (tw t / 2 ^ (8 * j))
/-- A length as a uvarint, with f steps at hand. -/
def uvF : Nat → Nat → List UInt8
  | 0, n => [UInt8.ofNat n]
  | f + 1, n => if n < 128 then [UInt8.ofNat n] else UInt8.ofNat (n % 128 + 128) :: uvF f (n / 128)
/-- A length as a uvarint. -/
def uv (n : Nat) : List UInt8 := uvF n n
/-- A field's bytes. -/
def encF (kd : Nat) (t : Int) (s : ByteArray) : List UInt8 := UInt8.ofNat kd :: (if kd = 1 then (List.range 8).map (le8 t) else uv s.size ++ s.data.toList)
/-- The row's bytes ahead of field k. -/
def pre (key : ByteArray) (K : Nat → Nat) (T : Nat → Int) (S : Nat → ByteArray) : Nat → List UInt8
  | 0 => key.data.toList
  | k + 1 => pre key K T S k ++ encF (K k) (T k) (S k)

theorem uvF_small (f : Nat) {n : Nat} (h : n < 128) : uvF f n = [UInt8.ofNat n] := by
  cases f with
  | zero => rfl
  | succ f => rw [uvF, if_pos h]

theorem uvF_any : ∀ f g n, n ≤ f → n ≤ g → uvF f n = uvF g n := by
  intro f
  induction f with
  | zero => intro g n h _; rw [uvF_small 0 (by omega), uvF_small g (by omega)]
  | succ f ih =>
    intro g n h h2
    by_cases hn : n < 128
    · rw [uvF_small _ hn, uvF_small _ hn]
    · cases g with
      | zero => omega
      | succ g => rw [uvF, uvF, if_neg hn, if_neg hn, ih g (n / 128) (by omega) (by omega)]

theorem uv_lt {n : Nat} (h : n < 128) : uv n = [UInt8.ofNat n] := uvF_small n h
theorem uv_ge {n : Nat} (h : 128 ≤ n) : uv n = UInt8.ofNat (n % 128 + 128) :: uv (n / 128) := by
  obtain ⟨m, rfl⟩ : ∃ m, n = m + 1 := ⟨n - 1, by omega⟩
  show uvF (m + 1) (m + 1) = _
  rw [uvF, if_neg (by omega), uvF_any m ((m + 1) / 128) _ (by omega) (Nat.le_refl _)]
  rfl

theorem uv_len (n : Nat) : 1 ≤ (uv n).length ∧ (uv n).length ≤ n + 1 := by
  induction n using Nat.strongRecOn with
  | ind n ih =>
    by_cases h : n < 128
    · rw [uv_lt h]; simp
    · rw [uv_ge (by omega)]
      have := ih (n / 128) (by omega)
      simp only [List.length_cons]
      omega

theorem encF_len (kd : Nat) (t : Int) (s : ByteArray) (hs : s.size ≤ 1048576) : (encF kd t s).length ≤ 2097154 := by
  unfold encF
  split
  · simp
  · have := uv_len s.size
    have e : s.data.toList.length = s.size := by simp
    simp only [List.length_cons, List.length_append, e]
    omega

theorem pre_len (key : ByteArray) (K : Nat → Nat) (T : Nat → Int) (S : Nat → ByteArray) (n : Nat) (hk : key.size ≤ 65536) (hS : ∀ i, i < n → (S i).size ≤ 1048576) :
    ∀ k, k ≤ n → (pre key K T S k).length ≤ 65536 + 2097154 * k := by
  intro k
  induction k with
  | zero => intro _; simpa [pre] using hk
  | succ k ih =>
    intro hkn
    have h1 := ih (by omega)
    have h2 := encF_len (K k) (T k) (S k) (hS k (by omega))
    simp only [pre, List.length_append]
    omega

set_option maxHeartbeats 1000000 in
theorem uvlen_any (n : Nat) (w : World) (hn : n ≤ 1048576) : Calls Try.prog 28 #[.int .i64 n] w fun e w' => e = .returned (.int .i64 ((uv n).length : Nat)) ∧ w' = w := by
  go_enter Try.func28, Try.ntmps28
  go_wp2
  go_loopw [0, 3] (fun i s wr => ∃ m d : Nat, i = .int .i64 m ∧ s = .int .i64 d ∧ wr = w ∧ m ≤ n ∧ d + (uv m).length = (uv n).length + 1) (fun i _ _ => (intOf i).toNat)
  case atStart => exact ⟨n, 1, rfl, rfl, rfl, by omega, by omega⟩
  case round =>
    obtain ⟨m, d, rfl, rfl, rfl, hm, hd⟩ := hrel
    have hl := uv_len n
    have hl2 := uv_len m
    by_cases h : m < 128
    · have h' : ¬ (m : Int) ≥ 128 := by omega
      rw [uv_lt h] at hd
      simp at hd
      go_wp2
      go_ret
      exact ⟨by rw [← hd]; rfl, rfl⟩
    · have h' : (m : Int) ≥ 128 := by omega
      have h'' : (128 : Int) ≤ m := by omega
      rw [uv_ge (by omega)] at hd
      simp at hd
      go_wp2
      go_roundw
      case rel => exact ⟨m / 128, d + 1, by go_num, by go_num, trivial, by omega, by omega⟩
      case measure => simp [intOf]; omega

end Go.Proofs.Qxb6003656a
