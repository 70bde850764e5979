import Derived.Test.Qxb6003656aZZRow
namespace Go.Proofs.Qxb6003656a
open Go.RowKit

/-- A string's k-th byte as a number. -/
def byt (s : ByteArray) (k : Nat) : Int := ((s.data.toList[k]?.getD 0).toNat : Int)

theorem get_byt (s : ByteArray) : ∀ (n : Nat) (h : n < s.size), ((s[n]'h).toNat : Int) = byt s n := fun n h => by
  have h' : n < s.data.size := h
  unfold byt
  rw [Array.getElem?_toList, Array.getElem?_eq_getElem h']
  rfl

/-- A list of bytes as a string. -/
def strOf (l : List UInt8) : ByteArray := ⟨l.toArray⟩

theorem strOf_size (l : List UInt8) : (strOf l).size = l.length := by simp [strOf, ByteArray.size]

theorem byt_strOf (l : List UInt8) (p : Nat) (h : p < l.length) : byt (strOf l) p = ((l[p]'h).toNat : Int) := by
  simp [byt, strOf, h]

theorem byt_mid (a b c : List UInt8) (j : Nat) (h : j < b.length) : byt (strOf (a ++ b ++ c)) (a.length + j) = ((b[j]'h).toNat : Int) := by
  rw [byt_strOf _ _ (by simp; omega)]
  simp [h]

theorem byt_data (s : ByteArray) (j : Nat) (h : j < s.data.toList.length) : (((s.data.toList)[j]'h).toNat : Int) = byt s j := by
  unfold byt
  rw [List.getElem?_eq_getElem h]
  rfl

/-- Where field k begins. -/
def off (key : ByteArray) (K : Nat → Nat) (T : Nat → Int) (S : Nat → ByteArray) (k : Nat) : Nat := (pre key K T S k).length

theorem pre_split (key : ByteArray) (K : Nat → Nat) (T : Nat → Int) (S : Nat → ByteArray) (n k : Nat) (h : k ≤ n) : ∃ c, pre key K T S n = pre key K T S k ++ c := by
  induction n with
  | zero => obtain rfl : k = 0 := by omega
            exact ⟨[], by simp⟩
  | succ n ih =>
    by_cases e : k = n + 1
    · subst e; exact ⟨[], by simp⟩
    · obtain ⟨c, hc⟩ := ih (by omega)
      exact ⟨c ++ encF (K n) (T n) (S n), by rw [pre, hc, List.append_assoc]⟩

theorem off_le (key : ByteArray) (K : Nat → Nat) (T : Nat → Int) (S : Nat → ByteArray) (n k : Nat) (h : k ≤ n) : off key K T S k ≤ off key K T S n := by
  obtain ⟨c, hc⟩ := pre_split key K T S n k h
  unfold off
  rw [hc]
  simp

theorem off_zero (key : ByteArray) (K : Nat → Nat) (T : Nat → Int) (S : Nat → ByteArray) : off key K T S 0 = key.size := by simp [off, pre]

theorem off_succ (key : ByteArray) (K : Nat → Nat) (T : Nat → Int) (S : Nat → ByteArray) (k : Nat) : off key K T S (k + 1) = off key K T S k + (encF (K k) (T k) (S k)).length := by simp [off, pre]

theorem row_key (key : ByteArray) (K : Nat → Nat) (T : Nat → Int) (S : Nat → ByteArray) (n i : Nat) (h : i < key.size) : byt (strOf (pre key K T S n)) i = byt key i := by
  obtain ⟨c, hc⟩ := pre_split key K T S n 0 (by omega)
  have hl : i < key.data.toList.length := by simpa using h
  rw [hc]
  have := byt_mid [] (pre key K T S 0) c i hl
  simp only [List.nil_append, List.length_nil, Nat.zero_add] at this
  rw [this]
  exact byt_data key i hl

/-- A byte of field k. -/
theorem row_byte (key : ByteArray) (K : Nat → Nat) (T : Nat → Int) (S : Nat → ByteArray) (n k j : Nat) (hk : k < n) (h : j < (encF (K k) (T k) (S k)).length) :
    byt (strOf (pre key K T S n)) (off key K T S k + j) = (((encF (K k) (T k) (S k))[j]'h).toNat : Int) := by
  obtain ⟨c, hc⟩ := pre_split key K T S n (k + 1) hk
  rw [hc, pre]
  exact byt_mid _ _ _ _ _

/-- A length below 2^21 as a uvarint. -/
theorem uv_two {n : Nat} (h : 128 ≤ n) (h2 : n < 16384) : uv n = [UInt8.ofNat (n % 128 + 128), UInt8.ofNat (n / 128)] := by
  rw [uv_ge h, uv_lt (by omega)]
theorem uv_three {n : Nat} (h : 16384 ≤ n) (h2 : n < 2097152) : uv n = [UInt8.ofNat (n % 128 + 128), UInt8.ofNat (n / 128 % 128 + 128), UInt8.ofNat (n / 128 / 128)] := by
  rw [uv_ge (by omega), uv_two (by omega) (by omega)]

/-- What the decoder finds at an integer's field. -/
theorem row_int (key : ByteArray) (K : Nat → Nat) (T : Nat → Int) (S : Nat → ByteArray) (n k : Nat) (hk : k < n) (h1 : K k = 1) :
    byt (strOf (pre key K T S n)) (off key K T S k) = 1 ∧ (∀ j, j < 8 → byt (strOf (pre key K T S n)) (off key K T S k + 1 + j) = IntKind.u64.wrap (T k) / 2 ^ (8 * j) % 256) ∧ off key K T S (k + 1) = off key K T S k + 9 := by
  have hl : (encF (K k) (T k) (S k)).length = 9 := by simp [encF, h1]
  refine ⟨?_, fun j hj => ?_, by rw [off_succ, hl]⟩
  · have := row_byte key K T S n k 0 hk (by omega)
    rw [Nat.add_zero] at this
    rw [this]
    simp [encF, h1]
  · have := row_byte key K T S n k (1 + j) hk (by omega)
    rw [← Nat.add_assoc] at this
    rw [this, le8_int]
    congr 2
    simp only [encF, h1, if_pos, Nat.add_comm 1 j, List.getElem_cons_succ, List.getElem_map, List.getElem_range]

/-- .. at a text's field. -/
theorem row_text (key : ByteArray) (K : Nat → Nat) (T : Nat → Int) (S : Nat → ByteArray) (n k : Nat) (hk : k < n) (h1 : K k = 2) (L : List UInt8) (hL : uv (S k).size = L) :
    byt (strOf (pre key K T S n)) (off key K T S k) = 2 ∧ (∀ j (hj : j < L.length), byt (strOf (pre key K T S n)) (off key K T S k + 1 + j) = ((L[j]'hj).toNat : Int)) ∧
    (∀ j, j < (S k).size → byt (strOf (pre key K T S n)) (off key K T S k + 1 + L.length + j) = byt (S k) j) ∧ off key K T S (k + 1) = off key K T S k + 1 + L.length + (S k).size := by
  have hl : (encF (K k) (T k) (S k)).length = 1 + L.length + (S k).size := by simp [encF, h1, hL]; omega
  refine ⟨?_, fun j hj => ?_, fun j hj => ?_, by rw [off_succ, hl]; omega⟩
  · have := row_byte key K T S n k 0 hk (by omega)
    rw [Nat.add_zero] at this
    rw [this]
    simp [encF, h1]
  · have := row_byte key K T S n k (1 + j) hk (by omega)
    rw [← Nat.add_assoc] at this
    rw [this]
    congr 2
    simp [encF, h1, hL, Nat.add_comm 1 j, hj]
  · have := row_byte key K T S n k (1 + L.length + j) hk (by omega)
    rw [← Nat.add_assoc, ← Nat.add_assoc] at this
    have hjl : j < (S k).data.toList.length := by simpa using hj
    rw [this, ← byt_data (S k) j hjl]
    congr 2
    have e : 1 + L.length + j = (L.length + j) + 1 := by omega
    simp only [encF, h1, hL, e, List.getElem_cons_succ]
    simp

end Go.Proofs.Qxb6003656a
