import Derived.Test.Qxb6003656aDec
import Derived.Test.Qxb6003656aGuard
import Derived.Laws.CopyOwn
namespace Go.Proofs.Qxb6003656a
open Go.RowKit

/-- What a copy into a row just made leaves: nothing that lay there has turned, and the row holds the source's cells. -/
def Cpd (w0 w' : World) (g n : Nat) (f : Nat → Value) : Prop := Below w0.heap.size w0 w' ∧ g = w0.heap.size ∧ SlV w' (some ⟨g, 0, none⟩) n f

theorem copied_run {P : Program} (w0 : World) (cur : Array Value) (T ty : TypeId) (elem : TypeId) (hu : P.underlying T = some (.slice elem)) (hsz : (P.info? elem).map (·.size) = some 1)
    (sp : Option Addr) (n c : Nat) (hcur : cur.size = n) (f : Nat → Value) (hsrc : SlV w0 sp n f) (h1 : ∀ i, (f i).oneCell' = true) :
    ∃ w', (Builtin.copy_ #[T, T] ty #[.slice (some ⟨w0.heap.size, 0, none⟩) n n, .slice sp n c]).run P (w0.alloc (.cells cur elem)) = .ok (goInt n) w' ∧ Cpd w0 w' w0.heap.size n f := by
  have hlen : ((List.range n).map f).length = n := by simp
  rcases Nat.eq_zero_or_pos n with h0 | hpos
  · refine ⟨w0.alloc (.cells cur elem), ?_, (Below.refl _ _).alloc (Nat.le_refl _) _, rfl, .inl h0⟩
    rw [run_copy_none (P := P) (w0.alloc (.cells cur elem)) T T ty elem _ sp n n n c hu hsz (by simp [h0]), h0]
    rfl
  · rcases hsrc with h0 | ⟨B, o', rfl, hc⟩
    · omega
    have hr := run_copy_row (P := P) (w0.alloc (.cells cur elem)) T T ty elem w0.heap.size 0 n n ⟨B, o', none⟩ n c cur elem ((List.range n).map f) hu hsz (heap_alloc_new w0 (.cells cur elem)) (by simp) ?_ (by simp [hcur]) ?_
    · rw [hlen] at hr
      refine ⟨_, hr, below_setRow ((Below.refl _ _).alloc (Nat.le_refl _) _) (Nat.le_refl _) _, rfl, .inr ⟨_, 0, rfl, fun i hi => ?_⟩⟩
      have hg := setRow_heap (w0.alloc (.cells cur elem)) w0.heap.size cur (cur.toList.take 0 ++ (List.range n).map f ++ cur.toList.drop (0 + n)).toArray elem (0, 0) (heap_alloc_new w0 (.cells cur elem))
      rw [Lib.cell_of_heap hg]
      simp only [List.take_zero, List.nil_append, Nat.zero_add, List.getElem?_toArray]
      rw [List.getElem?_append_left (by simpa using hi)]
      simp [hi]
    · intro j v hj
      have hjn : j < n := by
        have := (List.getElem?_eq_some_iff.1 hj).1
        simpa using this
      rw [Addr.add_lit]
      refine Lib.cell?_alloc_some _ ?_
      rw [hc j hjn]
      simpa [hjn] using hj
    · intro v hv
      obtain ⟨i, _, rfl⟩ := List.mem_map.1 hv
      exact h1 i

theorem tw_lt (t : Int) : tw t < 2 ^ 64 := by
  have h : IntKind.u64.wrap t < 2 ^ 64 := by
    show t % _ < _
    exact Int.emod_lt_of_pos _ (by decide)
  rw [← tw_int] at h
  exact_mod_cast h

/-- A number of int64 is read back from its eight bytes. -/
theorem fits_of_wf {t : Int} (h : (Lit.int .i64 t).wf = true) : Fits t := by
  have hb : -9223372036854775808 ≤ t ∧ t ≤ 9223372036854775807 := by
    simpa [Lit.wf, IntKind.min, IntKind.max, IntKind.signed, IntKind.bits] using h
  unfold Fits accv
  rw [show 8 * 8 = 64 from rfl, Nat.mod_eq_of_lt (tw_lt t), tw_int]
  show wrap64 (t % 18446744073709551616) = t
  unfold wrap64
  omega

theorem Try.neNil23 (w : World) (a : Option Addr) (n c n' c' : Nat) : (binOp .neq 23 (.slice a n c) (.slice none n' c')).run Try.prog w = .ok (.bool (!a.isNone)) w := run_neq_slice_nil_any w 23 5 a n c n' c' Try.underlying23
theorem Try.neNil31 (w : World) (a : Option Addr) (n c n' c' : Nat) : (binOp .neq 31 (.slice a n c) (.slice none n' c')).run Try.prog w = .ok (.bool (!a.isNone)) w := run_neq_slice_nil_any w 31 2 a n c n' c' Try.underlying31
theorem Try.info2 : (Try.prog.info? 2).map (fun i => (i.zero, i.size, i.bytes)) = some (some (.int .i64 0), 1, 8) := by kernel_rfl

/-- The law's end: the row is made and read back. -/
structure Ready (w wc : World) (key : ByteArray) (a1 a2 a3 : Option Addr) (n : Nat) (X T : Nat → Int) (S : Nat → ByteArray) : Prop where
  below : Below w.heap.size w wc
  kinds : SlV wc a1 n (fun i => .int .u8 (X i))
  nums : SlV wc a2 n (fun i => .int .i64 (T i))
  strs : SlV wc a3 n (fun i => .string (S i))

theorem SlV.to {w : World} {a : Option Addr} {n : Nat} {f g : Nat → Value} (h : SlV w a n f) (e : ∀ i, i < n → f i = g i) : SlV w a n g := by
  rcases h with h | ⟨B, o, h1, h3⟩
  · exact .inl h
  · exact .inr ⟨B, o, h1, fun i hi => by rw [h3 i hi, e i hi]⟩

/-- What the law's end asks: the fields' domain. -/
def Fld (key : ByteArray) (n : Nat) (X T : Nat → Int) (S : Nat → ByteArray) : Prop :=
  key.size ≤ 65536 ∧ n ≤ 65536 ∧ (∀ i, i < n → X i = 1 ∨ X i = 2) ∧ (∀ i, i < n → (S i).size ≤ 1048576) ∧ ∀ i, i < n → Fits (T i)

theorem end_row {w wc : World} {key : ByteArray} {a1 a2 a3 : Option Addr} {n : Nat} {X T : Nat → Int} {S : Nat → ByteArray} (c1 c2 c3 : Nat) (h : Ready w wc key a1 a2 a3 n X T S) (hf : Fld key n X T S) :
    Calls Try.prog 19 #[.string key, .slice a1 n c1, .slice a2 n c2, .slice a3 n c3] wc fun e w' => e = .returned (.string (strOf (pre key (fun i => (X i).toNat) T S n))) ∧ Ready w w' key a1 a2 a3 n X T S := by
  obtain ⟨hk, hn, hX, hS, hT⟩ := hf
  have hin : INR wc a1 a2 a3 n (fun i => (X i).toNat) T S := ⟨h.kinds.to (fun i hi => by rcases hX i hi with e | e <;> simp [e]), h.nums, h.strs⟩
  have hdom : Dom n (fun i => (X i).toNat) S := ⟨hn, fun i hi => ⟨by rcases hX i hi with e | e <;> simp [e], hS i hi⟩⟩
  refine (zzmakeRow_any key a1 a2 a3 n c1 c2 c3 _ T S wc hk hdom hin).mono ?_
  rintro e w' ⟨rfl, hb⟩
  exact ⟨rfl, h.below.trans (hb.mono h.below.size), h.kinds.below hb (Nat.le_refl _), h.nums.below hb (Nat.le_refl _), h.strs.below hb (Nat.le_refl _)⟩

theorem end_dec {w wc : World} {key : ByteArray} {a1 a2 a3 : Option Addr} {n : Nat} {X T : Nat → Int} {S : Nat → ByteArray} (c1 c2 c3 : Nat) (h : Ready w wc key a1 a2 a3 n X T S) (hf : Fld key n X T S) :
    Calls Try.prog 20 #[.string (strOf (pre key (fun i => (X i).toNat) T S n)), .string key, .slice a1 n c1, .slice a2 n c2, .slice a3 n c3] wc fun e w' => e = .returned (.bool true) ∧ Below w.heap.size w w' := by
  obtain ⟨hk, hn, hX, hS, hT⟩ := hf
  have hin : INR wc a1 a2 a3 n (fun i => (X i).toNat) T S := ⟨h.kinds.to (fun i hi => by rcases hX i hi with e | e <;> simp [e]), h.nums, h.strs⟩
  have hdom : Dom n (fun i => (X i).toNat) S := ⟨hn, fun i hi => ⟨by rcases hX i hi with e | e <;> simp [e], hS i hi⟩⟩
  have hl := pre_len key (fun i => (X i).toNat) T S n hk hS n (Nat.le_refl _)
  refine (decodes_any _ key a1 a2 a3 n c1 c2 c3 _ T S _ wc hdom hin (rowHolds key n _ T S) hT (by rw [strOf_size]; omega)).mono ?_
  rintro e w' ⟨rfl, q, rfl⟩
  exact ⟨rfl, below_drewN h.below q⟩

set_option maxHeartbeats 8000000 in
set_option maxRecDepth 100000 in
theorem makeRow_law (key : ByteArray) (a1 a2 a3 : Option Addr) (n1 c1 n2 c2 n3 c3 : Nat) (X T : Nat → Int) (S : Nat → ByteArray) (w : World)
   (hx : SlV w a1 n1 (fun i => .int .u8 (X i))) (ht : SlV w a2 n2 (fun i => .int .i64 (T i))) (hs : SlV w a3 n3 (fun i => .string (S i))) (hT : ∀ i, i < n2 → Fits (T i)) :
    Calls Try.prog 5 #[.string key, .slice a1 n1 c1, .slice a2 n2 c2, .slice a3 n3 c3] w fun e w' => e = .returned (.bool true) ∧ Below w.heap.size w w' := by
  have q1 := Try.neNil23
  have q2 := Try.neNil31
  have q3 := Try.neNil29
  go_enter Try.func5, Try.ntmps5
  go_wp2_with (go_at_call 17; refine (bytesM_any key a1 a2 a3 n1 c1 n2 c2 n3 c3 S w hs).mono ?_)
  rintro e wz ⟨rfl | ⟨rfl, m0, m1, m2, m3, hS⟩, rfl⟩
  · go_wp2
    go_ret
    exact ⟨rfl, Below.refl _ _⟩
  go_wp2_with (go_at_call 18; refine (guardM_any key a1 a2 a3 n1 c1 n2 c2 n3 c3 X S w hx hs hS m0 m1 m2 m3).mono ?_)
  rintro e wz ⟨rfl | ⟨rfl, l0, l1, rfl, rfl, hX⟩, rfl⟩
  · go_wp2
    go_ret
    exact ⟨rfl, Below.refl _ _⟩
  have HF : Fld key n3 X T S := ⟨l0, l1, hX, hS, hT⟩
  have mk1 := run_make_row' (P := Try.prog) 23 5 (.int .u8 0) 1 Try.underlying23 infoByte rfl .i64 .i64 n3 (by omega) (by omega)
  have mk2 := run_make_row' (P := Try.prog) 31 2 (.int .i64 0) 8 Try.underlying31 Try.info2 rfl .i64 .i64 n3 (by omega) (by omega)
  have mk3 := run_make_row' (P := Try.prog) 29 9 (.string ByteArray.empty) 16 Try.underlying29 Try.info9 rfl .i64 .i64 n3 (by omega) (by omega)
  have HR : Hid (Ready w w key a1 a2 a3 n3 X T S) := ⟨Below.refl _ _, hx, ht, hs⟩
  clear hx ht hs hT hS hX l0 m0 m1 m2 m3
  cases a1 with
  | none =>
    cases a2 with
    | none =>
      cases a3 with
      | none =>
        go_wp2_with (go_at_call 19; refine (end_row _ _ _ HR.out HF).mono ?_)
        first | rintro e wr rfl hrd | rintro e wr ⟨rfl, hrd⟩
        have HD : Hid (Ready w wr key none none none n3 X T S) := hrd
        clear hrd
        go_wp2_with (go_at_call 20; refine (end_dec _ _ _ HD.out HF).mono ?_)
        first | rintro e wf rfl hb | rintro e wf ⟨rfl, hb⟩
        go_wp2
        go_ret
        exact ⟨rfl, hb⟩
      | some x3 =>
        obtain ⟨w3, e3, hc3⟩ := copied_run (P := Try.prog) w (madeCells #[(.string ByteArray.empty)] n3) 29 3 9 Try.underlying29 (by kernel_rfl) (some x3) n3 c3 (size_madeCells _ _) (fun i => .string (S i)) HR.out.strs (fun _ => rfl)
        have HR3 : Hid (Ready w w3 key none none (some ⟨w.heap.size, 0, none⟩) n3 X T S) := ⟨HR.out.below.trans (hc3.1.mono HR.out.below.size), HR.out.kinds.below hc3.1 (Nat.le_refl _), HR.out.nums.below hc3.1 (Nat.le_refl _), hc3.2.2⟩
        clear hc3
        go_wp2_with (go_at_call 19; refine (end_row _ _ _ HR3.out HF).mono ?_)
        first | rintro e wr rfl hrd | rintro e wr ⟨rfl, hrd⟩
        have HD : Hid (Ready w wr key none none (some ⟨w.heap.size, 0, none⟩) n3 X T S) := hrd
        clear hrd
        go_wp2_with (go_at_call 20; refine (end_dec _ _ _ HD.out HF).mono ?_)
        first | rintro e wf rfl hb | rintro e wf ⟨rfl, hb⟩
        go_wp2
        go_ret
        exact ⟨rfl, hb⟩
    | some x2 =>
      obtain ⟨w2, e2, hc2⟩ := copied_run (P := Try.prog) w (madeCells #[(.int .i64 0)] n3) 31 3 2 Try.underlying31 (by kernel_rfl) (some x2) n3 c2 (size_madeCells _ _) (fun i => .int .i64 (T i)) HR.out.nums (fun _ => rfl)
      have HR2 : Hid (Ready w w2 key none (some ⟨w.heap.size, 0, none⟩) a3 n3 X T S) := ⟨HR.out.below.trans (hc2.1.mono HR.out.below.size), HR.out.kinds.below hc2.1 (Nat.le_refl _), hc2.2.2, HR.out.strs.below hc2.1 (Nat.le_refl _)⟩
      clear hc2
      cases a3 with
      | none =>
        go_wp2_with (go_at_call 19; refine (end_row _ _ _ HR2.out HF).mono ?_)
        first | rintro e wr rfl hrd | rintro e wr ⟨rfl, hrd⟩
        have HD : Hid (Ready w wr key none (some ⟨w.heap.size, 0, none⟩) none n3 X T S) := hrd
        clear hrd
        go_wp2_with (go_at_call 20; refine (end_dec _ _ _ HD.out HF).mono ?_)
        first | rintro e wf rfl hb | rintro e wf ⟨rfl, hb⟩
        go_wp2
        go_ret
        exact ⟨rfl, hb⟩
      | some x3 =>
        obtain ⟨w3, e3, hc3⟩ := copied_run (P := Try.prog) w2 (madeCells #[(.string ByteArray.empty)] n3) 29 3 9 Try.underlying29 (by kernel_rfl) (some x3) n3 c3 (size_madeCells _ _) (fun i => .string (S i)) HR2.out.strs (fun _ => rfl)
        have HR3 : Hid (Ready w w3 key none (some ⟨w.heap.size, 0, none⟩) (some ⟨w2.heap.size, 0, none⟩) n3 X T S) := ⟨HR2.out.below.trans (hc3.1.mono HR2.out.below.size), HR2.out.kinds.below hc3.1 (Nat.le_refl _), HR2.out.nums.below hc3.1 (Nat.le_refl _), hc3.2.2⟩
        clear hc3
        go_wp2_with (go_at_call 19; refine (end_row _ _ _ HR3.out HF).mono ?_)
        first | rintro e wr rfl hrd | rintro e wr ⟨rfl, hrd⟩
        have HD : Hid (Ready w wr key none (some ⟨w.heap.size, 0, none⟩) (some ⟨w2.heap.size, 0, none⟩) n3 X T S) := hrd
        clear hrd
        go_wp2_with (go_at_call 20; refine (end_dec _ _ _ HD.out HF).mono ?_)
        first | rintro e wf rfl hb | rintro e wf ⟨rfl, hb⟩
        go_wp2
        go_ret
        exact ⟨rfl, hb⟩
  | some x1 =>
    obtain ⟨w1, e1, hc1⟩ := copied_run (P := Try.prog) w (madeCells #[(.int .u8 0)] n3) 23 3 5 Try.underlying23 (by kernel_rfl) (some x1) n3 c1 (size_madeCells _ _) (fun i => .int .u8 (X i)) HR.out.kinds (fun _ => rfl)
    have HR1 : Hid (Ready w w1 key (some ⟨w.heap.size, 0, none⟩) a2 a3 n3 X T S) := ⟨HR.out.below.trans (hc1.1.mono HR.out.below.size), hc1.2.2, HR.out.nums.below hc1.1 (Nat.le_refl _), HR.out.strs.below hc1.1 (Nat.le_refl _)⟩
    clear hc1
    cases a2 with
    | none =>
      cases a3 with
      | none =>
        go_wp2_with (go_at_call 19; refine (end_row _ _ _ HR1.out HF).mono ?_)
        first | rintro e wr rfl hrd | rintro e wr ⟨rfl, hrd⟩
        have HD : Hid (Ready w wr key (some ⟨w.heap.size, 0, none⟩) none none n3 X T S) := hrd
        clear hrd
        go_wp2_with (go_at_call 20; refine (end_dec _ _ _ HD.out HF).mono ?_)
        first | rintro e wf rfl hb | rintro e wf ⟨rfl, hb⟩
        go_wp2
        go_ret
        exact ⟨rfl, hb⟩
      | some x3 =>
        obtain ⟨w3, e3, hc3⟩ := copied_run (P := Try.prog) w1 (madeCells #[(.string ByteArray.empty)] n3) 29 3 9 Try.underlying29 (by kernel_rfl) (some x3) n3 c3 (size_madeCells _ _) (fun i => .string (S i)) HR1.out.strs (fun _ => rfl)
        have HR3 : Hid (Ready w w3 key (some ⟨w.heap.size, 0, none⟩) none (some ⟨w1.heap.size, 0, none⟩) n3 X T S) := ⟨HR1.out.below.trans (hc3.1.mono HR1.out.below.size), HR1.out.kinds.below hc3.1 (Nat.le_refl _), HR1.out.nums.below hc3.1 (Nat.le_refl _), hc3.2.2⟩
        clear hc3
        go_wp2_with (go_at_call 19; refine (end_row _ _ _ HR3.out HF).mono ?_)
        first | rintro e wr rfl hrd | rintro e wr ⟨rfl, hrd⟩
        have HD : Hid (Ready w wr key (some ⟨w.heap.size, 0, none⟩) none (some ⟨w1.heap.size, 0, none⟩) n3 X T S) := hrd
        clear hrd
        go_wp2_with (go_at_call 20; refine (end_dec _ _ _ HD.out HF).mono ?_)
        first | rintro e wf rfl hb | rintro e wf ⟨rfl, hb⟩
        go_wp2
        go_ret
        exact ⟨rfl, hb⟩
    | some x2 =>
      obtain ⟨w2, e2, hc2⟩ := copied_run (P := Try.prog) w1 (madeCells #[(.int .i64 0)] n3) 31 3 2 Try.underlying31 (by kernel_rfl) (some x2) n3 c2 (size_madeCells _ _) (fun i => .int .i64 (T i)) HR1.out.nums (fun _ => rfl)
      have HR2 : Hid (Ready w w2 key (some ⟨w.heap.size, 0, none⟩) (some ⟨w1.heap.size, 0, none⟩) a3 n3 X T S) := ⟨HR1.out.below.trans (hc2.1.mono HR1.out.below.size), HR1.out.kinds.below hc2.1 (Nat.le_refl _), hc2.2.2, HR1.out.strs.below hc2.1 (Nat.le_refl _)⟩
      clear hc2
      cases a3 with
      | none =>
        go_wp2_with (go_at_call 19; refine (end_row _ _ _ HR2.out HF).mono ?_)
        first | rintro e wr rfl hrd | rintro e wr ⟨rfl, hrd⟩
        have HD : Hid (Ready w wr key (some ⟨w.heap.size, 0, none⟩) (some ⟨w1.heap.size, 0, none⟩) none n3 X T S) := hrd
        clear hrd
        go_wp2_with (go_at_call 20; refine (end_dec _ _ _ HD.out HF).mono ?_)
        first | rintro e wf rfl hb | rintro e wf ⟨rfl, hb⟩
        go_wp2
        go_ret
        exact ⟨rfl, hb⟩
      | some x3 =>
        obtain ⟨w3, e3, hc3⟩ := copied_run (P := Try.prog) w2 (madeCells #[(.string ByteArray.empty)] n3) 29 3 9 Try.underlying29 (by kernel_rfl) (some x3) n3 c3 (size_madeCells _ _) (fun i => .string (S i)) HR2.out.strs (fun _ => rfl)
        have HR3 : Hid (Ready w w3 key (some ⟨w.heap.size, 0, none⟩) (some ⟨w1.heap.size, 0, none⟩) (some ⟨w2.heap.size, 0, none⟩) n3 X T S) := ⟨HR2.out.below.trans (hc3.1.mono HR2.out.below.size), HR2.out.kinds.below hc3.1 (Nat.le_refl _), HR2.out.nums.below hc3.1 (Nat.le_refl _), hc3.2.2⟩
        clear hc3
        go_wp2_with (go_at_call 19; refine (end_row _ _ _ HR3.out HF).mono ?_)
        first | rintro e wr rfl hrd | rintro e wr ⟨rfl, hrd⟩
        have HD : Hid (Ready w wr key (some ⟨w.heap.size, 0, none⟩) (some ⟨w1.heap.size, 0, none⟩) (some ⟨w2.heap.size, 0, none⟩) n3 X T S) := hrd
        clear hrd
        go_wp2_with (go_at_call 20; refine (end_dec _ _ _ HD.out HF).mono ?_)
        first | rintro e wf rfl hb | rintro e wf ⟨rfl, hb⟩
        go_wp2
        go_ret
        exact ⟨rfl, hb⟩

end Go.Proofs.Qxb6003656a
