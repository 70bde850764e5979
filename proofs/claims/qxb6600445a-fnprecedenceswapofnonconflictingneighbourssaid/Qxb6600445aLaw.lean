import Derived.Test.Qxb6600445aLawP
namespace Go.Proofs.Qxb6600445a
open Go.RowKit Go.Maps

theorem Try.info5 : (Try.prog.info? 5).map (fun i => (i.zero, i.size, i.bytes)) = some (some (.int .u8 0), 1, 1) := by kernel_rfl

/-- Neighbours that do not conflict. -/
def NC (T : Nat → Nat) (Wr : Nat → Bool) (S : Nat → ByteArray) (k : Nat) : Prop := T k = T (k + 1) ∨ S k ≠ S (k + 1) ∨ (Wr k = false ∧ Wr (k + 1) = false)

set_option maxHeartbeats 4000000 in
set_option maxRecDepth 8000 in
theorem law_any (ax a1 a2 a3 : Option Addr) (m n1 n2 n3 cx c1 c2 c3 : Nat) (k : Int) (X : Nat → ByteArray) (T : Nat → Nat) (Wr : Nat → Bool) (S : Nat → ByteArray) (w : World)
    (hx : SlV w ax m (fun i => .string (X i))) (ht : SlV w a1 n1 (fun i => .int .u16 (T i))) (hw : SlV w a2 n2 (fun i => .bool (Wr i))) (hs : SlV w a3 n3 (fun i => .string (S i))) (hT : ∀ i, i < n1 → T i < 65536) :
    Calls Try.prog 7 #[.slice ax m cx, .slice a1 n1 c1, .slice a2 n2 c2, .slice a3 n3 c3, .int .i64 k] w fun e w' => e = .returned (.bool true) ∧ Below w.heap.size w w' := by
  have HX : Hid (SlV w ax m (fun i => .string (X i))) := hx
  have HT : Hid (SlV w a1 n1 (fun i => .int .u16 (T i))) := ht
  have HW : Hid (SlV w a2 n2 (fun i => .bool (Wr i))) := hw
  have HS : Hid (SlV w a3 n3 (fun i => .string (S i))) := hs
  have KT : Hid (∀ i, i < n1 → T i < 65536) := hT
  clear hx ht hw hs hT
  go_enter Try.func7, Try.ntmps7
  go_wp2_with (go_at_call 22; refine (bytes_any ax a1 a2 a3 m n1 n2 n3 cx c1 c2 c3 k X S w HX.out HS.out).mono ?_)
  rintro e w' ⟨rfl | ⟨rfl, hm0, hn1, hn2, hn3, hXs, hSs⟩, rfl⟩
  · go_wp2
    go_ret
    exact ⟨rfl, Below.refl _ _⟩
  have HXs : Hid (∀ i, i < m → (X i).size ≤ 1048576) := hXs
  have HSs : Hid (∀ i, i < n3 → (S i).size ≤ 1048576) := hSs
  clear hXs hSs
  by_cases b0 : 256 < (m : Int)
  · go_wp2
    go_ret
    exact ⟨rfl, Below.refl _ _⟩
  by_cases b1 : 4096 < (n1 : Int)
  · go_wp2
    go_ret
    exact ⟨rfl, Below.refl _ _⟩
  by_cases b2 : 4096 < (n2 : Int)
  · go_wp2
    go_ret
    exact ⟨rfl, Below.refl _ _⟩
  by_cases b3 : 4096 < (n3 : Int)
  · go_wp2
    go_ret
    exact ⟨rfl, Below.refl _ _⟩
  go_wp2_with (go_at_call 18; refine (domain_any ax a1 a2 a3 m n1 n2 n3 cx c1 c2 c3 X T S w HX.out HT.out HS.out (by omega) (by omega) (by omega) (by omega) HXs.out HSs.out KT.out).mono ?_)
  rintro e w1 ⟨rfl | ⟨rfl, rfl, rfl, hTm, hXd⟩, hb1⟩
  · go_wp2
    go_ret
    exact ⟨rfl, hb1⟩
  have HTm : Hid (∀ i, i < n3 → T i < m) := hTm
  have HXd : Hid (∀ i, i < m → ∀ j, j < i → X i ≠ X j) := hXd
  have HIN : Hid (IN w1 ax a1 a2 a3 m n3 X T Wr S) := ⟨HX.out.below hb1 (Nat.le_refl _), HT.out.below hb1 (Nat.le_refl _), HW.out.below hb1 (Nat.le_refl _), HS.out.below hb1 (Nat.le_refl _)⟩
  clear hTm hXd HX HT HW HS KT
  by_cases bk : k < 0
  · go_wp2
    go_ret
    exact ⟨rfl, hb1⟩
  by_cases bk2 : (n3 : Int) - 1 ≤ k
  · go_wp2
    go_ret
    exact ⟨rfl, hb1⟩
  obtain ⟨kk, rfl⟩ : ∃ kk : Nat, k = kk := ⟨k.toNat, by omega⟩
  have hk1 : kk + 1 < n3 := by omega
  obtain ⟨Bt, ot, rfl, hct⟩ : ∃ B o, a1 = some ⟨B, o, none⟩ ∧ ∀ i, i < n3 → w1.cell? ⟨B, o + i, none⟩ = some (.int .u16 (T i)) := by
    rcases HIN.out.opTx with h0 | h0
    · omega
    · exact h0
  obtain ⟨Bw, ow, rfl, hcw⟩ : ∃ B o, a2 = some ⟨B, o, none⟩ ∧ ∀ i, i < n3 → w1.cell? ⟨B, o + i, none⟩ = some (.bool (Wr i)) := by
    rcases HIN.out.writes with h0 | h0
    · omega
    · exact h0
  obtain ⟨Bs, os, rfl, hcs⟩ : ∃ B o, a3 = some ⟨B, o, none⟩ ∧ ∀ i, i < n3 → w1.cell? ⟨B, o + i, none⟩ = some (.string (S i)) := by
    rcases HIN.out.items with h0 | h0
    · omega
    · exact h0
  have t0 := hct kk (by omega)
  have t1 := hct (kk + 1) hk1
  have v0 := hcw kk (by omega)
  have v1 := hcw (kk + 1) hk1
  have s0 := hcs kk (by omega)
  have s1 := hcs (kk + 1) hk1
  have i1 : (kk : Int) < n3 := by omega
  have i2 : (kk : Int) + 1 < n3 := by omega
  have i3 : ((kk : Int) + 1).toNat = kk + 1 := by omega
  clear hct hcw hcs
  go_upto_region 9 with fail
  go_cut [96] (fun v wd => (∃ q, wd = w1.drewN q) ∧ (v = .bool true ∨ (v = .bool false ∧ NC T Wr S kk)))
  case first =>
    by_cases q1 : T kk = T (kk + 1)
    · have HN : Hid (NC T Wr S kk) := .inl q1
      rw [← q1] at t1
      clear q1
      go_quiet (fail)
      go_wp2
      go_meet
      case rel => exact ⟨⟨_, rfl⟩, .inr ⟨rfl, HN.out⟩⟩
    · have q1' : ¬ (T kk : Int) = T (kk + 1) := by omega
      have q2' : ((T kk : Int) == T (kk + 1)) = false := by simpa using q1'
      have q3' : decide ((T kk : Int) = T (kk + 1)) = false := by simpa using q1'
      clear q1
      by_cases q4 : S kk = S (kk + 1)
      · rw [← q4] at s1
        clear q4
        cases hw0 : Wr kk with
        | true =>
          rw [hw0] at v0
          clear hw0
          go_quiet (fail)
          go_wp2
          go_meet
          case rel => exact ⟨⟨_, rfl⟩, .inl rfl⟩
        | false =>
          cases hw1 : Wr (kk + 1) with
          | true =>
            rw [hw0] at v0
            rw [hw1] at v1
            clear hw0 hw1
            go_quiet (fail)
            go_wp2
            go_meet
            case rel => exact ⟨⟨_, rfl⟩, .inl rfl⟩
          | false =>
            have HN : Hid (NC T Wr S kk) := .inr (.inr ⟨hw0, hw1⟩)
            rw [hw0] at v0
            rw [hw1] at v1
            clear hw0 hw1
            go_quiet (fail)
            go_wp2
            go_meet
            case rel => exact ⟨⟨_, rfl⟩, .inr ⟨rfl, HN.out⟩⟩
      · have HN : Hid (NC T Wr S kk) := .inr (.inl q4)
        have q5 := bytes_ne q4
        clear q4
        go_quiet (fail)
        go_wp2
        go_meet
        case rel => exact ⟨⟨_, rfl⟩, .inr ⟨rfl, HN.out⟩⟩
  case rest =>
    obtain ⟨⟨q, rfl⟩, rfl | ⟨rfl, hNC⟩⟩ := hcut
    · go_wp2
      go_ret
      exact ⟨rfl, below_drewN hb1 _⟩
    have HNC : Hid (NC T Wr S kk) := hNC
    have hbq : Below w1.heap.size w1 (w1.drewN q) := below_drewN (Below.refl _ _) _
    have HI2 : Hid (IN (w1.drewN q) ax (some ⟨Bt, ot, none⟩) (some ⟨Bw, ow, none⟩) (some ⟨Bs, os, none⟩) m n3 X T Wr S) := HIN.out.below hbq (Nat.le_refl _)
    have hb2 : Below w.heap.size w (w1.drewN q) := below_drewN hb1 _
    clear HIN hbq hb1 hNC t0 t1 v0 v1 s0 s1
    generalize w1.drewN q = w2 at *
    go_wp2_with (go_at_call 20; refine (ops_any ax (some ⟨Bt, ot, none⟩) (some ⟨Bw, ow, none⟩) (some ⟨Bs, os, none⟩) m n3 cx c1 c2 c3 X T Wr S w2 HI2.out (by omega) HTm.out).mono ?_)
    rintro e w3 ⟨p1, rfl, hp1, hl1, hb3⟩
    have HI3 : Hid (IN w3 ax (some ⟨Bt, ot, none⟩) (some ⟨Bw, ow, none⟩) (some ⟨Bs, os, none⟩) m n3 X T Wr S) := HI2.out.below hb3 (Nat.le_refl _)
    have HL1 : Hid (LaidOps w2 w3 p1 n3 n3 X T Wr S) := hl1
    clear hl1
    go_wp2_with (go_at_call 20; refine (ops_any ax (some ⟨Bt, ot, none⟩) (some ⟨Bw, ow, none⟩) (some ⟨Bs, os, none⟩) m n3 cx c1 c2 c3 X T Wr S w3 HI3.out (by omega) HTm.out).mono ?_)
    rintro e w4 ⟨p2, rfl, hp2, ⟨hl2, f, hrow, hf⟩, hb4⟩
    have hfk := hf kk (by omega)
    have hfk1 := hf (kk + 1) (by omega)
    have r0 := hrow.cell (i := kk * 3) (by omega)
    have r1 := hrow.cell (i := kk * 3 + 1) (by omega)
    have r2 := hrow.cell (i := kk * 3 + 2) (by omega)
    have r3 := hrow.cell (i := (kk + 1) * 3) (by omega)
    have r4 := hrow.cell (i := (kk + 1) * 3 + 1) (by omega)
    have r5 := hrow.cell (i := (kk + 1) * 3 + 2) (by omega)
    rw [hfk.1] at r0
    rw [hfk.2.1] at r1
    rw [hfk.2.2] at r2
    rw [hfk1.1] at r3
    rw [hfk1.2.1] at r4
    rw [hfk1.2.2] at r5
    have z0 := hrow.frozen (kk * 3)
    have z1 := hrow.frozen (kk * 3 + 1)
    have z2 := hrow.frozen (kk * 3 + 2)
    have z3 := hrow.frozen ((kk + 1) * 3)
    have z4 := hrow.frozen ((kk + 1) * 3 + 1)
    have z5 := hrow.frozen ((kk + 1) * 3 + 2)
    have hlp : p2 < w4.heap.size := hrow.lt
    have np : ¬ p2 = w4.heap.size := by omega
    have np' : ¬ w4.heap.size = p2 := by omega
    have HF : Hid (w4.rowIs p2 47 (n3 * 3) f ∧ ∀ i, i < n3 → f (i * 3) = .string (X (T i)) ∧ f (i * 3 + 1) = .int .u8 (if Wr i then 2 else 1) ∧ f (i * 3 + 2) = .string (S i)) := ⟨hrow, hf⟩
    generalize hqa : (if Wr kk then (2 : Int) else 1) = qa at *
    generalize hqb : (if Wr (kk + 1) then (2 : Int) else 1) = qb at *
    have HQ : Hid ((if Wr kk then (2 : Int) else 1) = qa ∧ (if Wr (kk + 1) then (2 : Int) else 1) = qb) := ⟨hqa, hqb⟩
    clear hfk hfk1 hrow hf hqa hqb
    go_upto_region 16 with fail
    have hs3 := hb3.size
    have hs4 := hb4.size
    have hs2 := hb2.size
    have HA : Hid (OpsAt (swapped w4 p2 kk (.string (X (T kk))) (.int .u8 qa) (.string (S kk)) (.string (X (T (kk + 1)))) (.int .u8 qb) (.string (S (kk + 1)))) (some ⟨p1, 0, none⟩) n3 X (ops0 T Wr S) ∧
        OpsAt (swapped w4 p2 kk (.string (X (T kk))) (.int .u8 qa) (.string (S kk)) (.string (X (T (kk + 1)))) (.int .u8 qb) (.string (S (kk + 1)))) (some ⟨p2, 0, none⟩) n3 X (swp (ops0 T Wr S) kk) ∧
        SlV (swapped w4 p2 kk (.string (X (T kk))) (.int .u8 qa) (.string (S kk)) (.string (X (T (kk + 1)))) (.int .u8 qb) (.string (S (kk + 1)))) ax m (fun i => .string (X i)) ∧
        Below w.heap.size w (swapped w4 p2 kk (.string (X (T kk))) (.int .u8 qa) (.string (S kk)) (.string (X (T (kk + 1)))) (.int .u8 qb) (.string (S (kk + 1))))) := by
      have hbs : Below w3.heap.size w4 (swapped w4 p2 kk (.string (X (T kk))) (.int .u8 qa) (.string (S kk)) (.string (X (T (kk + 1)))) (.int .u8 qb) (.string (S (kk + 1)))) := swapped_below hp2 hs4
      have hb34 := hb4.trans hbs
      refine ⟨HL1.out.at_.below hb34 (Nat.le_refl _), swapped_ops HF.out.1 HF.out.2 rfl (by rw [← HQ.out.1]; rfl) rfl rfl (by rw [← HQ.out.2]; rfl) rfl, HI3.out.txs.below hb34 (Nat.le_refl _), ?_⟩
      exact (hb2.trans (hb3.mono (by omega))).trans (hb34.mono (by omega))
    unfold swapped at HA
    clear HF HL1 HI2 HI3 r0 r1 r2 r3 r4 r5 z0 z1 z2 z3 z4 z5 hp1 hp2 hl2 hb3 hb4 hs3 hs4 hs2 hlp hb2 HQ np np'
    generalize ((((((w4.setCell ⟨p2, kk * 3, none⟩ (.string (X (T (kk + 1))))).setCell ⟨p2, kk * 3 + 1, none⟩ (.int .u8 qb)).setCell ⟨p2, kk * 3 + 2, none⟩ (.string (S (kk + 1)))).setCell ⟨p2, (kk + 1) * 3, none⟩ (.string (X (T kk)))).setCell ⟨p2, (kk + 1) * 3 + 1, none⟩ (.int .u8 qa)).setCell ⟨p2, (kk + 1) * 3 + 2, none⟩ (.string (S kk))).alloc (.cells #[.string (X (T kk)), .int .u8 qa, .string (S kk)] 47) = w5 at *
    obtain ⟨A1, A2, A3, hb5⟩ := HA.out
    have HA1 : Hid (OpsAt w5 (some ⟨p1, 0, none⟩) n3 X (ops0 T Wr S)) := A1
    have HA2 : Hid (OpsAt w5 (some ⟨p2, 0, none⟩) n3 X (swp (ops0 T Wr S) kk)) := A2
    have HA3 : Hid (SlV w5 ax m (fun i => .string (X i))) := A3
    have KX : Hid (∀ i j, i < m → j < m → X i = X j → i = j) := fun i j hi hj e => by
      rcases Nat.lt_trichotomy i j with h | h | h
      · exact (HXd.out j hj i h e.symm).elim
      · exact h
      · exact (HXd.out i hi j h e).elim
    have KT1 : Hid (∀ i, i < n3 → (ops0 T Wr S i).t < m) := HTm.out
    have KS1 : Hid (∀ i, i < n3 → (ops0 T Wr S i).s.size ≤ 1048576) := HSs.out
    have KT2 : Hid (∀ i, i < n3 → (swp (ops0 T Wr S) kk i).t < m) := swp_lt hk1 HTm.out
    have KS2 : Hid (∀ i, i < n3 → (swp (ops0 T Wr S) kk i).s.size ≤ 1048576) := swp_size hk1 HSs.out
    have HE : Hid (∀ u v, v ∈ (runF (ops0 T Wr S) n3).succ u ↔ v ∈ (runF (swp (ops0 T Wr S) kk) n3).succ u) := fun u v => swap_edges (ops0 T Wr S) n3 kk hk1 HNC.out u v
    have hm : m ≤ 256 := by omega
    have hn : n3 ≤ 4096 := by omega
    clear HA A1 A2 A3 HNC HTm HSs HXd hm0 hn1 hn2 hn3 b0 b1 b2 b3 bk bk2
    generalize ops0 T Wr S = o1 at *
    generalize swp o1 kk = o2 at *
    -- the first graph
    go_wp2_with (go_at_call 21; refine (txList_any ax m cx X w5 HA3.out (by omega)).mono ?_)
    rintro e w6 ⟨d1, rfl, hb6, hx6⟩
    have HX6 : Hid (SlV w6 (some ⟨d1, 0, none⟩) m (fun i => .string (X i))) := hx6
    have HO6 : Hid (OpsAt w6 (some ⟨p1, 0, none⟩) n3 X o1) := HA1.out.below hb6 (Nat.le_refl _)
    clear hx6
    go_wp2_with (go_at_call 19; refine (succ_any (some ⟨p1, 0, none⟩) n3 n3 (some ⟨d1, 0, none⟩) m m X o1 w6 HO6.out HX6.out hn hm KX.out HXs.out KT1.out KS1.out).mono ?_)
    rintro e w7 ⟨g1, G1, rfl, hb7, hS1⟩
    have hb57 : Below w5.heap.size w5 w7 := hb6.trans (hb7.mono hb6.size)
    have HS1 : Hid (SuccAt w7 g1 m G1 (runF o1 n3).succ) := hS1
    clear HX6 HO6 hS1
    -- the second
    go_wp2_with (go_at_call 21; refine (txList_any ax m cx X w7 (HA3.out.below hb57 (Nat.le_refl _)) (by omega)).mono ?_)
    rintro e w8 ⟨d2, rfl, hb8, hx8⟩
    have hb58 : Below w5.heap.size w5 w8 := hb57.trans (hb8.mono hb57.size)
    have HX8 : Hid (SlV w8 (some ⟨d2, 0, none⟩) m (fun i => .string (X i))) := hx8
    have HO8 : Hid (OpsAt w8 (some ⟨p2, 0, none⟩) n3 X o2) := HA2.out.below hb58 (Nat.le_refl _)
    clear hx8
    go_wp2_with (go_at_call 19; refine (succ_any (some ⟨p2, 0, none⟩) n3 n3 (some ⟨d2, 0, none⟩) m m X o2 w8 HO8.out HX8.out hn hm KX.out HXs.out KT2.out KS2.out).mono ?_)
    rintro e w9 ⟨g2, G2, rfl, hb9, hS2⟩
    have hb59 : Below w5.heap.size w5 w9 := hb58.trans (hb9.mono hb58.size)
    have hb09 : Below w.heap.size w w9 := hb5.trans (hb59.mono hb5.size)
    have HS1' : Hid (SuccAt w9 g1 m G1 (runF o1 n3).succ) := HS1.out.below (hb8.trans (hb9.mono hb8.size)) (Nat.le_refl _)
    have HS2 : Hid (SuccAt w9 g2 m G2 (runF o2 n3).succ) := hS2
    clear HX8 HO8 hS2 HS1 hb58 hb59 hb57 hb6 hb7 hb8 hb9 HA1 HA2 HA3 hb5
    -- the marks
    have hmk := run_make_row' (P := Try.prog) 23 5 (.int .u8 0) 1 Try.underlying23 Try.info5 rfl .i64 .i64 (m * m) (by have := Nat.mul_le_mul hm hm; omega) (by have := Nat.mul_le_mul hm hm; omega)
    simp only [Int.natCast_mul] at hmk
    have hmm1 : (m : Int) * m ≤ 65536 := by
      have := Nat.mul_le_mul hm hm
      have e : ((m * m : Nat) : Int) = (m : Int) * m := Int.natCast_mul m m
      omega
    have hmm0 : 0 ≤ (m : Int) * m := by
      have e : ((m * m : Nat) : Int) = (m : Int) * m := Int.natCast_mul m m
      omega
    go_upto_region 20 with fail
    have HR0 : Hid ((w9.alloc (.cells (madeCells #[.int .u8 0] (m * m)) 5)).rowIs w9.heap.size 5 (m * m) (fun _ => .int .u8 0)) := World.rowIs_made w9 (.int .u8 0) (m * m) 5
    have hb10 : Below w9.heap.size w9 (w9.alloc (.cells (madeCells #[.int .u8 0] (m * m)) 5)) := (Below.refl _ _).alloc (Nat.le_refl _) _
    have hb010 : Below w.heap.size w (w9.alloc (.cells (madeCells #[.int .u8 0] (m * m)) 5)) := hb09.trans (hb10.mono hb09.size)
    have HT1 : Hid (SuccAt (w9.alloc (.cells (madeCells #[.int .u8 0] (m * m)) 5)) g1 m G1 (runF o1 n3).succ) := HS1'.out.below hb10 (Nat.le_refl _)
    have HT2 : Hid (SuccAt (w9.alloc (.cells (madeCells #[.int .u8 0] (m * m)) 5)) g2 m G2 (runF o2 n3).succ) := HS2.out.below hb10 (Nat.le_refl _)
    have KL1 : Hid (∀ u, u < m → ((runF o1 n3).succ u).length ≤ 65536) := fun u _ => Nat.le_trans ((run_len o1 n3).2 u) (by omega)
    have KL2 : Hid (∀ u, u < m → ((runF o2 n3).succ u).length ≤ 65536) := fun u _ => Nat.le_trans ((run_len o2 n3).2 u) (by omega)
    have KV1 : Hid (∀ u v, u < m → v ∈ (runF o1 n3).succ u → v < m) := fun u v _ hv => run_lt KT1.out u v hv
    have KV2 : Hid (∀ u v, u < m → v ∈ (runF o2 n3).succ u → v < m) := fun u v _ hv => run_lt KT2.out u v hv
    have hsz9 := hb09.size
    clear hmk hb10 hb09 HS1' HS2 hmm0 hmm1
    go_wp2_with (go_at_call 23; refine (mark_any w9.heap.size (m * m) g1 m G1 (runF o1 n3).succ (fun _ => 0) (fun _ => 1) 1 _ HT1.out hm KL1.out KV1.out HR0.out (fun _ => or_a) (fun _ => or_b)).mono ?_)
    rintro e w11 ⟨rfl, hM1⟩
    obtain ⟨ht1, Z, hrow1, hZ01, hZ⟩ := hM1.first
    obtain ⟨cs0, hcs0⟩ := rowIs_block HR0.out
    have HT3 : Hid (SuccAt w11 g2 m G2 (runF o2 n3).succ) := HT2.out.same hcs0 (by decide) (by decide) (fun b hb hne => ht1.block b hb hne)
    have HR1 : Hid (w11.rowIs w9.heap.size 5 (m * m) (fun c => .int .u8 (Z c))) := hrow1
    have HZ1 : Hid (∀ x y, x < m → y < m → (y ∈ (runF o1 n3).succ x → Z (x * m + y) = 1) ∧ (¬ y ∈ (runF o1 n3).succ x → Z (x * m + y) = 0)) := hZ
    have HI2 : Hid (∀ c, bits BinOp.or IntKind.u8 (bits BinOp.or IntKind.u8 (Z c) 2) 2 = bits BinOp.or IntKind.u8 (Z c) 2) := fun c => by
      rcases hZ01 c with h | h
      · rw [h, or_c, or_e]
      · rw [h, or_d, or_f]
    have hb011 : Below w.heap.size w w11 := by
      refine hb010.trans ⟨ht1.os, ht1.tape, ht1.output, ht1.size, fun b hb => ht1.block b ?_ ?_⟩
      · have := hb010.size; omega
      · omega
    have hs11 : w9.heap.size < w11.heap.size := hrow1.lt
    clear hM1 ht1 hrow1 hZ01 hZ hcs0 HT1 HT2 HR0 hb010
    go_wp2_with (go_at_call 23; refine (mark_any w9.heap.size (m * m) g2 m G2 (runF o2 n3).succ Z (fun c => bits BinOp.or IntKind.u8 (Z c) 2) 2 w11 HT3.out hm KL2.out KV2.out HR1.out (fun _ => rfl) HI2.out).mono ?_)
    rintro e w12 ⟨rfl, hM2⟩
    obtain ⟨Z2, hrow2, h03⟩ := hM2.second HZ1.out HE.out
    have ht2 := hM2.1
    have hb012 : Below w.heap.size w w12 := by
      refine hb011.trans ⟨ht2.os, ht2.tape, ht2.output, ht2.size, fun b hb => ht2.block b ?_ ?_⟩
      · have := hb011.size; omega
      · omega
    have hmm2 : m * m ≤ 65536 := by have := Nat.mul_le_mul hm hm; omega
    have HR2 : Hid (∀ c, c < m * m → w12.cell? ⟨w9.heap.size, c, none⟩ = some (.int .u8 (Z2 c)) ∧ (Z2 c = 0 ∨ Z2 c = 3)) := fun c hc => ⟨hrow2.cell hc, h03 c hc⟩
    clear hM2 hrow2 h03 ht2 HT3 HR1 HZ1 HI2 hb011 HE KL1 KL2 KV1 KV2 KT1 KT2 KS1 KS2 hs11 hsz9
    generalize m * m = mm at *
    go_wp2
    go_loop [18] (fun i => ∃ c : Nat, c ≤ mm ∧ i = .int .i64 c) (fun i => mm - (intOf i).toNat)
    case atStart => exact ⟨0, by omega, rfl⟩
    case round =>
      obtain ⟨c, hc, rfl⟩ := hrel
      by_cases hlt : c < mm
      · obtain ⟨g3, h03⟩ := HR2.out c hlt
        have hlt' : (c : Int) < mm := by omega
        rcases h03 with h0 | h0
        · rw [h0] at g3
          clear h0
          go_wp2
          go_round
          case rel => exact ⟨c + 1, by omega, by go_num⟩
          case measure => simp [intOf]; omega
        · rw [h0] at g3
          clear h0
          go_wp2
          go_round
          case rel => exact ⟨c + 1, by omega, by go_num⟩
          case measure => simp [intOf]; omega
      · obtain rfl : mm = c := by omega
        have hlt' : ¬ (mm : Int) < mm := by omega
        go_wp2
        go_ret
        exact ⟨rfl, hb012⟩

end Go.Proofs.Qxb6600445a
