import Derived.Test.YbulkcameCSRelease
namespace Go.Proofs.Ybulkcame.CS
open Go.RowKit Ext
set_option maxRecDepth 10000
set_option linter.unusedSimpArgs false
set_option linter.unusedVariables false

theorem info5 : (Yba.prog.info? 5).map (fun i => (i.zero, i.size, i.bytes)) = some (some (.int .u8 0), 1, 1) := by kernel_rfl

theorem Fld.turn {w w' : World} {g g2 N k : Nat} (h : Fld w g2 N k) (ht : Turn g w w') (hg : g < g2) : Fld w' g2 N k := by
  obtain ⟨cur, h1, h2, h3⟩ := h
  refine ⟨cur, (ht.block _ (block_lt h1) (by omega)).trans h1, h2, fun j hj => ?_⟩
  obtain ⟨d, a, b, c⟩ := h3 j hj
  exact ⟨d, a, b, (ht.block _ (block_lt c) (by omega)).trans c⟩
theorem Fld.lt {w : World} {g N k : Nat} (h : Fld w g N k) : g < w.heap.size := by obtain ⟨_, h, _⟩ := h; exact block_lt h

abbrev cfArr (af bf : Value) (l : Nat) : Array Value :=
  #[.string { data := #[112] }, .int .i64 7, .pointer none, .pointer none, af, bf, .slice none 0 0, .slice (some ⟨l, 0, none⟩) 1 1, .int .i64 3]
abbrev recArr (d m : Nat) : Array Value := #[.int .i64 1, .int .i64 0, .string { data := #[] }, .slice (some ⟨d, 0, none⟩) m m, .string { data := #[] }, .int .i64 0]

set_option maxHeartbeats 4000000 in
theorem short_false (n e m : Nat) (hn : n ≤ 255) (he : e ≤ 255) (hm : m ≤ 255) (w : World) :
    Calls Yba.prog 3 #[.int .u8 n, .int .u8 e, .bool false, .int .u8 m] w fun r w' => r = .returned (.bool true) ∧ Below w.heap.size w w' := by
  obtain ⟨i0, hi, hz0, hz1, hz2⟩ := info_parts info5
  go_enter Yba.func3, Yba.ntmps3
  go_wp2_with fail
  refine (fields_any n e hn he w).mono ?_
  rintro r w1 ⟨rfl, f1, b1⟩
  have F1 := hid f1
  have B1 := hid b1
  have hg1 := f1.lt
  clear f1 b1
  go_wp2_with fail
  refine (fields_any e n he hn w1).mono ?_
  rintro r w2 ⟨rfl, f2, b2⟩
  have F2 := hid f2
  have F1' := hid (F1.out.kept b2)
  have B2 := hid (B1.out.trans (b2.mono B1.out.size))
  have hg2 := f2.lt
  clear f2 b2 F1 B1
  go_wp2_with (at_make; refine wpList_make_full _ rfl _ _ 34 rfl w2.heap.size 5 i0 _ 1 Yba.underlying34 hi hz0 hz1 _ _ _ _ m rfl rfl rfl rfl (by rw [hz2]; omega) (by unfold maxLen; omega) (by simp; omega) ?_)
  intro w3 hown hgrow
  obtain ⟨Wc, hWc⟩ : ∃ Wc, Wc = (w2.alloc (.cells #[.int .i64 5, .int .i64 9] 28)).alloc (.cells (cfArr (.slice (some ⟨w1.heap.size, 0, none⟩) e (e + n)) (.slice (some ⟨w.heap.size, 0, none⟩) n (n + e)) w2.heap.size) 33) := ⟨_, rfl⟩
  have hgr : Wc.grownBy w3 none := by rw [hWc]; exact hgrow
  have hbc : Below w2.heap.size w2 Wc := by rw [hWc]; exact ((Below.refl _ _).alloc (Nat.le_refl _) _).alloc (by simp) _
  have hL : Wc.heap[w2.heap.size]? = some (.cells #[.int .i64 5, .int .i64 9] 28 (0, 0)) := by rw [hWc, Below.heap_alloc _ _ _ (by simp)]; exact alloc_at _ _ _ rfl
  have hC : Wc.heap[w2.heap.size + 1]? = some (.cells (cfArr (.slice (some ⟨w1.heap.size, 0, none⟩) e (e + n)) (.slice (some ⟨w.heap.size, 0, none⟩) n (n + e)) w2.heap.size) 33 (0, 0)) := by rw [hWc]; exact alloc_at _ _ _ (by simp)
  have hb3 : Below Wc.heap.size Wc w3 := (Below.refl _ _).grown hgr (Nat.le_refl _) (fun k hk => by cases hk)
  have L3 := hid ((hb3.block _ (block_lt hL)).trans hL)
  have C3 := hid ((hb3.block _ (block_lt hC)).trans hC)
  have b23 : Below w2.heap.size w2 w3 := hbc.trans (hb3.mono hbc.size)
  have G1 := hid (F1'.out.kept b23)
  have G2 := hid (F2.out.kept b23)
  have B3 := hid (B2.out.trans (b23.mono B2.out.size))
  have hc3 := block_lt C3.out
  clear hown hgrow hWc hgr hbc hL hC hb3 b23 F1' F2 B2 hi hz0 hz1 hz2
  go_wp2_with fail
  obtain ⟨w4, hw4⟩ : ∃ w4, w4 = w3.alloc (.cells (recArr (w2.heap.size + 1 + 1) m) 37) := ⟨_, rfl⟩
  rw [← hw4]
  have b4 : Below w3.heap.size w3 w4 := by rw [hw4]; exact (Below.refl _ _).alloc (Nat.le_refl _) _
  have R4 := hid (show w4.heap[w3.heap.size]? = some (.cells (recArr (w2.heap.size + 1 + 1) m) 37 (0, 0)) from by rw [hw4]; exact alloc_at _ _ _ rfl)
  have L4 := hid ((b4.block _ (block_lt L3.out)).trans L3.out)
  have C4 := hid ((b4.block _ (block_lt C3.out)).trans C3.out)
  have H1 := hid (G1.out.kept b4)
  have H2 := hid (G2.out.kept b4)
  have B4 := hid (B3.out.trans (b4.mono B3.out.size))
  clear hw4 b4 L3 C3 G1 G2 B3
  refine (behindDone_any (w2.heap.size + 1) w.heap.size n (n + e) (by omega) (by omega) _ _ _ _ _ _ m _ (by omega) w4 (block_cell C4.out 5) H1.out).mono ?_
  rintro r w5 ⟨rfl, hcl, ht⟩
  have Hcl := hid hcl
  have L5 := hid ((ht.block _ (block_lt L4.out) (by omega)).trans L4.out)
  have C5 := hid ((ht.block _ (block_lt C4.out) (by omega)).trans C4.out)
  have R5 := hid ((ht.block _ (block_lt R4.out) (by omega)).trans R4.out)
  have H5 := hid (H2.out.turn ht hg1)
  have B5 := hid (ht.below B4.out (Nat.le_refl _) B4.out.size)
  clear hcl ht L4 C4 R4 H1 H2 B4
  have hne : Nonempty (Later w5.heap.size w5) := ⟨⟨w5, Below.refl _ _⟩⟩
  have k5 : ∀ x : Later w5.heap.size w5, x.1.cell? ⟨w2.heap.size + 1, 5, none⟩ = some (.slice (some ⟨w.heap.size, 0, none⟩) n (n + e)) := fun x => x.cell (block_cell C5.out 5) (block_lt C5.out)
  have k5' := k5 ⟨w5, Below.refl _ _⟩
  go_wp2_with fail
  refine wp_region_later w5.heap.size (by kernel_rfl) (by kernel_rfl) ?_
  repeat (go_big_quiet_step (fail))
  refine wpQuiet_nil ?_
  rintro w6 ⟨⟨w6', b6⟩, hx⟩
  obtain rfl : w6 = w6' := hx
  have c6 : ∀ j, j < n + e → w6.cell? ⟨w.heap.size, j * 9 + 8, none⟩ = some (.slice none 0 0) := fun j hj => (b6.cell (World.block_lt_of_cell? w5 _ (Hcl.out j hj))).trans (Hcl.out j hj)
  have L6 := hid ((b6.block _ (block_lt L5.out)).trans L5.out)
  have C6 := hid ((b6.block _ (block_lt C5.out)).trans C5.out)
  have R6 := hid ((b6.block _ (block_lt R5.out)).trans R5.out)
  have H6 := hid (H5.out.kept b6)
  have B6 := hid (B5.out.trans (b6.mono B5.out.size))
  have D6 := hid c6
  clear b6 hne k5 k5' c6 L5 C5 R5 H5 B5 Hcl
  go_wp2_with fail
  go_loopw [17] (fun i wr => ∃ k : Nat, k ≤ n + e ∧ i = .int .i64 k ∧ wr = w6) (fun i _ => n + e - (intOf i).toNat)
  case atStart => exact ⟨0, Nat.zero_le _, rfl, rfl⟩
  case round =>
    obtain ⟨k, hk, rfl, rfl⟩ := hrel
    have hns := fun (w : World) (a : Option Addr) (n c n1 c1 : Nat) => run_neq_slice_nil_any (P := Yba.prog) w 34 5 a n c n1 c1 Yba.underlying34
    by_cases hlt : k < n + e
    · have c8 := D6.out k hlt
      go_wp2_with fail
      go_roundw
      case rel => exact ⟨k + 1, by omega, by go_num, trivial⟩
      case measure => simp [intOf]; omega
    · have k4 : wr.cell? ⟨w2.heap.size + 1, 4, none⟩ = some (.slice (some ⟨w1.heap.size, 0, none⟩) e (e + n)) := block_cell C6.out 4
      go_wp2_with fail
      go_loopw [19] (fun i wq => ∃ k : Nat, k ≤ e + n ∧ i = .int .i64 k ∧ wq = wr) (fun i _ => e + n - (intOf i).toNat)
      case atStart => exact ⟨0, Nat.zero_le _, rfl, rfl⟩
      case round =>
        obtain ⟨j, hj, rfl, rfl⟩ := hrel
        by_cases hjt : j < e + n
        · obtain ⟨d, hd1, hd2⟩ : ∃ d, wr.cell? ⟨w1.heap.size, j * 9 + 8, none⟩ = some (.slice (some ⟨d, 0, none⟩) 1 1) ∧ wr.cell? ⟨d, 0, none⟩ = some (.int .u8 ((j : Int) % 256)) := by
            obtain ⟨cur, h1, h2, h3⟩ := H6.out
            obtain ⟨d, a, b, c⟩ := h3 j hjt
            exact ⟨d, (block_cell h1 _).trans a, block_cell c 0⟩
          go_wp2_with fail
          go_roundw
          case rel => exact ⟨j + 1, by omega, by go_num, trivial⟩
          case measure => simp [intOf]; omega
        · have q0 : wr.cell? ⟨w2.heap.size + 1, 0, none⟩ = some (.string { data := #[112] }) := block_cell C6.out 0
          have q1 : wr.cell? ⟨w2.heap.size + 1, 1, none⟩ = some (.int .i64 7) := block_cell C6.out 1
          have q2 : wr.cell? ⟨w2.heap.size + 1, 2, none⟩ = some (.pointer none) := block_cell C6.out 2
          have q3 : wr.cell? ⟨w2.heap.size + 1, 3, none⟩ = some (.pointer none) := block_cell C6.out 3
          have q7 : wr.cell? ⟨w2.heap.size + 1, 7, none⟩ = some (.slice (some ⟨w2.heap.size, 0, none⟩) 1 1) := block_cell C6.out 7
          have q8 : wr.cell? ⟨w2.heap.size + 1, 8, none⟩ = some (.int .i64 3) := block_cell C6.out 8
          have l0 : wr.cell? ⟨w2.heap.size, 0, none⟩ = some (.int .i64 5) := block_cell L6.out 0
          have l1 : wr.cell? ⟨w2.heap.size, 1, none⟩ = some (.int .i64 9) := block_cell L6.out 1
          have r3 : wr.cell? ⟨w3.heap.size, 3, none⟩ = some (.slice (some ⟨w2.heap.size + 1 + 1, 0, none⟩) m m) := block_cell R6.out 3
          go_wp2_with fail
          go_ret
          exact ⟨by simp, B6.out⟩
set_option maxHeartbeats 4000000 in
theorem short_true (n e m : Nat) (hn : n ≤ 255) (he : e ≤ 255) (hm : m ≤ 255) (w : World) :
    Calls Yba.prog 3 #[.int .u8 n, .int .u8 e, .bool true, .int .u8 m] w fun r w' => r = .returned (.bool true) ∧ Below w.heap.size w w' := by
  obtain ⟨i0, hi, hz0, hz1, hz2⟩ := info_parts info5
  go_enter Yba.func3, Yba.ntmps3
  go_wp2_with fail
  refine (fields_any n e hn he w).mono ?_
  rintro r w1 ⟨rfl, f1, b1⟩
  have F1 := hid f1
  have B1 := hid b1
  have hg1 := f1.lt
  clear f1 b1
  go_wp2_with fail
  refine (fields_any e n he hn w1).mono ?_
  rintro r w2 ⟨rfl, f2, b2⟩
  have F2 := hid f2
  have F1' := hid (F1.out.kept b2)
  have B2 := hid (B1.out.trans (b2.mono B1.out.size))
  have hg2 := f2.lt
  clear f2 b2 F1 B1
  go_wp2_with (at_make; refine wpList_make_full _ rfl _ _ 34 rfl w2.heap.size 5 i0 _ 1 Yba.underlying34 hi hz0 hz1 _ _ _ _ 1048576 rfl rfl rfl rfl (by rw [hz2]; omega) (by unfold maxLen; omega) (by simp; omega) ?_)
  intro w3 hown hgrow
  obtain ⟨Wc, hWc⟩ : ∃ Wc, Wc = (w2.alloc (.cells #[.int .i64 5, .int .i64 9] 28)).alloc (.cells (cfArr (.slice (some ⟨w1.heap.size, 0, none⟩) e (e + n)) (.slice (some ⟨w.heap.size, 0, none⟩) n (n + e)) w2.heap.size) 33) := ⟨_, rfl⟩
  have hgr : Wc.grownBy w3 none := by rw [hWc]; exact hgrow
  have hbc : Below w2.heap.size w2 Wc := by rw [hWc]; exact ((Below.refl _ _).alloc (Nat.le_refl _) _).alloc (by simp) _
  have hL : Wc.heap[w2.heap.size]? = some (.cells #[.int .i64 5, .int .i64 9] 28 (0, 0)) := by rw [hWc, Below.heap_alloc _ _ _ (by simp)]; exact alloc_at _ _ _ rfl
  have hC : Wc.heap[w2.heap.size + 1]? = some (.cells (cfArr (.slice (some ⟨w1.heap.size, 0, none⟩) e (e + n)) (.slice (some ⟨w.heap.size, 0, none⟩) n (n + e)) w2.heap.size) 33 (0, 0)) := by rw [hWc]; exact alloc_at _ _ _ (by simp)
  have hb3 : Below Wc.heap.size Wc w3 := (Below.refl _ _).grown hgr (Nat.le_refl _) (fun k hk => by cases hk)
  have L3 := hid ((hb3.block _ (block_lt hL)).trans hL)
  have C3 := hid ((hb3.block _ (block_lt hC)).trans hC)
  have b23 : Below w2.heap.size w2 w3 := hbc.trans (hb3.mono hbc.size)
  have G1 := hid (F1'.out.kept b23)
  have G2 := hid (F2.out.kept b23)
  have B3 := hid (B2.out.trans (b23.mono B2.out.size))
  have hc3 := block_lt C3.out
  clear hown hgrow hWc hgr hbc hL hC hb3 b23 F1' F2 B2 hi hz0 hz1 hz2
  go_wp2_with fail
  obtain ⟨w4, hw4⟩ : ∃ w4, w4 = w3.alloc (.cells (recArr (w2.heap.size + 1 + 1) 1048576) 37) := ⟨_, rfl⟩
  rw [← hw4]
  have b4 : Below w3.heap.size w3 w4 := by rw [hw4]; exact (Below.refl _ _).alloc (Nat.le_refl _) _
  have R4 := hid (show w4.heap[w3.heap.size]? = some (.cells (recArr (w2.heap.size + 1 + 1) 1048576) 37 (0, 0)) from by rw [hw4]; exact alloc_at _ _ _ rfl)
  have L4 := hid ((b4.block _ (block_lt L3.out)).trans L3.out)
  have C4 := hid ((b4.block _ (block_lt C3.out)).trans C3.out)
  have H1 := hid (G1.out.kept b4)
  have H2 := hid (G2.out.kept b4)
  have B4 := hid (B3.out.trans (b4.mono B3.out.size))
  clear hw4 b4 L3 C3 G1 G2 B3
  refine (behindDone_any (w2.heap.size + 1) w.heap.size n (n + e) (by omega) (by omega) _ _ _ _ _ _ 1048576 _ (by omega) w4 (block_cell C4.out 5) H1.out).mono ?_
  rintro r w5 ⟨rfl, hcl, ht⟩
  have Hcl := hid hcl
  have L5 := hid ((ht.block _ (block_lt L4.out) (by omega)).trans L4.out)
  have C5 := hid ((ht.block _ (block_lt C4.out) (by omega)).trans C4.out)
  have R5 := hid ((ht.block _ (block_lt R4.out) (by omega)).trans R4.out)
  have H5 := hid (H2.out.turn ht hg1)
  have B5 := hid (ht.below B4.out (Nat.le_refl _) B4.out.size)
  clear hcl ht L4 C4 R4 H1 H2 B4
  have hne : Nonempty (Later w5.heap.size w5) := ⟨⟨w5, Below.refl _ _⟩⟩
  have k5 : ∀ x : Later w5.heap.size w5, x.1.cell? ⟨w2.heap.size + 1, 5, none⟩ = some (.slice (some ⟨w.heap.size, 0, none⟩) n (n + e)) := fun x => x.cell (block_cell C5.out 5) (block_lt C5.out)
  have k5' := k5 ⟨w5, Below.refl _ _⟩
  go_wp2_with fail
  refine wp_region_later w5.heap.size (by kernel_rfl) (by kernel_rfl) ?_
  repeat (go_big_quiet_step (fail))
  refine wpQuiet_nil ?_
  rintro w6 ⟨⟨w6', b6⟩, hx⟩
  obtain rfl : w6 = w6' := hx
  have c6 : ∀ j, j < n + e → w6.cell? ⟨w.heap.size, j * 9 + 8, none⟩ = some (.slice none 0 0) := fun j hj => (b6.cell (World.block_lt_of_cell? w5 _ (Hcl.out j hj))).trans (Hcl.out j hj)
  have L6 := hid ((b6.block _ (block_lt L5.out)).trans L5.out)
  have C6 := hid ((b6.block _ (block_lt C5.out)).trans C5.out)
  have R6 := hid ((b6.block _ (block_lt R5.out)).trans R5.out)
  have H6 := hid (H5.out.kept b6)
  have B6 := hid (B5.out.trans (b6.mono B5.out.size))
  have D6 := hid c6
  clear b6 hne k5 k5' c6 L5 C5 R5 H5 B5 Hcl
  go_wp2_with fail
  go_loopw [17] (fun i wr => ∃ k : Nat, k ≤ n + e ∧ i = .int .i64 k ∧ wr = w6) (fun i _ => n + e - (intOf i).toNat)
  case atStart => exact ⟨0, Nat.zero_le _, rfl, rfl⟩
  case round =>
    obtain ⟨k, hk, rfl, rfl⟩ := hrel
    have hns := fun (w : World) (a : Option Addr) (n c n1 c1 : Nat) => run_neq_slice_nil_any (P := Yba.prog) w 34 5 a n c n1 c1 Yba.underlying34
    by_cases hlt : k < n + e
    · have c8 := D6.out k hlt
      go_wp2_with fail
      go_roundw
      case rel => exact ⟨k + 1, by omega, by go_num, trivial⟩
      case measure => simp [intOf]; omega
    · have k4 : wr.cell? ⟨w2.heap.size + 1, 4, none⟩ = some (.slice (some ⟨w1.heap.size, 0, none⟩) e (e + n)) := block_cell C6.out 4
      go_wp2_with fail
      go_loopw [19] (fun i wq => ∃ k : Nat, k ≤ e + n ∧ i = .int .i64 k ∧ wq = wr) (fun i _ => e + n - (intOf i).toNat)
      case atStart => exact ⟨0, Nat.zero_le _, rfl, rfl⟩
      case round =>
        obtain ⟨j, hj, rfl, rfl⟩ := hrel
        by_cases hjt : j < e + n
        · obtain ⟨d, hd1, hd2⟩ : ∃ d, wr.cell? ⟨w1.heap.size, j * 9 + 8, none⟩ = some (.slice (some ⟨d, 0, none⟩) 1 1) ∧ wr.cell? ⟨d, 0, none⟩ = some (.int .u8 ((j : Int) % 256)) := by
            obtain ⟨cur, h1, h2, h3⟩ := H6.out
            obtain ⟨d, a, b, c⟩ := h3 j hjt
            exact ⟨d, (block_cell h1 _).trans a, block_cell c 0⟩
          go_wp2_with fail
          go_roundw
          case rel => exact ⟨j + 1, by omega, by go_num, trivial⟩
          case measure => simp [intOf]; omega
        · have q0 : wr.cell? ⟨w2.heap.size + 1, 0, none⟩ = some (.string { data := #[112] }) := block_cell C6.out 0
          have q1 : wr.cell? ⟨w2.heap.size + 1, 1, none⟩ = some (.int .i64 7) := block_cell C6.out 1
          have q2 : wr.cell? ⟨w2.heap.size + 1, 2, none⟩ = some (.pointer none) := block_cell C6.out 2
          have q3 : wr.cell? ⟨w2.heap.size + 1, 3, none⟩ = some (.pointer none) := block_cell C6.out 3
          have q7 : wr.cell? ⟨w2.heap.size + 1, 7, none⟩ = some (.slice (some ⟨w2.heap.size, 0, none⟩) 1 1) := block_cell C6.out 7
          have q8 : wr.cell? ⟨w2.heap.size + 1, 8, none⟩ = some (.int .i64 3) := block_cell C6.out 8
          have l0 : wr.cell? ⟨w2.heap.size, 0, none⟩ = some (.int .i64 5) := block_cell L6.out 0
          have l1 : wr.cell? ⟨w2.heap.size, 1, none⟩ = some (.int .i64 9) := block_cell L6.out 1
          have r3 : wr.cell? ⟨w3.heap.size, 3, none⟩ = some (.slice (some ⟨w2.heap.size + 1 + 1, 0, none⟩) 1048576 1048576) := block_cell R6.out 3
          go_wp2_with fail
          go_ret
          exact ⟨by simp, B6.out⟩
end Go.Proofs.Ybulkcame.CS
