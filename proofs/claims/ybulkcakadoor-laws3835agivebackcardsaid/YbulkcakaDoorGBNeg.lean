import Derived.Test.YbulkcakaDoorGBWalks
import Derived.Shelf.Strconv.Itoa4
import Derived.Shelf.Lay
import Derived.Ground.NamesProg
import Derived.Lib.AppendIntMem
import Derived.Lib.SmallJoins
import Derived.LaidEqlPtr
namespace Go.Proofs.YbulkcakaDoor.GB
open Go.RowKit Ext Go.Shelf
set_option maxRecDepth 10000
set_option linter.unusedSimpArgs false
set_option linter.unusedVariables false

shelf_lay LaysM.n173 Nm 173 at Ybad as lays173

abbrev Tab (w : World) : Prop := Lib.TabIs Ybad.prog w "internal/strconv.uint64pow10" .u64 Lib.pow10Tab
abbrev txt (d : Int) : ByteArray := ⟨(Lib.itoa d).toArray⟩

theorem formatInt (d : Int) (h0 : -9223372036854775808 ≤ d) (h1 : d ≤ 9223372036854775807) (w : World) (ht : Tab w) :
    Calls Ybad.prog 8 #[.int .i64 d, .int .i64 10] w fun e w' => e = .returned (.string (txt d)) ∧ Below w.heap.size w w' :=
  (Any.strconv_FormatInt_10 lays173 d h0 h1 w ht).mono fun e w' ⟨he, k, os, hw⟩ => ⟨he, by rw [hw]; exact Go.Lib.below_grow _ w (Nat.le_refl _) k os⟩

/-- What the error holds. -/
def IsErr (w : World) (g : Nat) (s v y : ByteArray) : Prop := w.heap[g]? = some (.cells #[.string s, .string v, .string y] 40 (0, 0))

set_option maxHeartbeats 1000000 in
theorem whole_any (s y : ByteArray) (d : Int) (h0 : -9223372036854775808 ≤ d) (h1 : d ≤ 9223372036854775807) (w : World) (ht : Tab w) :
    Calls Ybad.prog 24 #[.string s, .int .i64 d, .string y] w fun e w' => ∃ g, e = .returned (.iface 37 (.pointer (some ⟨g, 0, none⟩))) ∧ IsErr w' g s (txt d) y ∧ Below w.heap.size w w' := by
  go_enter Ybad.func24, Ybad.ntmps24
  go_wp2_with fail
  refine (formatInt d h0 h1 w ht).mono ?_
  rintro e w1 ⟨rfl, b1⟩
  have B1 := hid b1
  clear b1
  go_wp2_with fail
  go_ret
  exact ⟨_, rfl, alloc_at _ _ _ rfl, B1.out.alloc B1.out.size _⟩

set_option maxHeartbeats 1000000 in
theorem below_any (s : ByteArray) (d : Int) (h0 : -9223372036854775808 ≤ d) (h1 : d ≤ 9223372036854775807) (w : World) (ht : Tab w) :
    Calls Ybad.prog 22 #[.string s, .int .i64 d, .int .i64 0] w fun e w' => ∃ g, e = .returned (.iface 37 (.pointer (some ⟨g, 0, none⟩))) ∧ IsErr w' g s (txt d) { data := #[105, 115, 32, 110, 101, 103, 97, 116, 105, 118, 101] } ∧ Below w.heap.size w w' := by
  go_enter Ybad.func22, Ybad.ntmps22
  go_wp2_with fail
  refine (whole_any s _ d h0 h1 w ht).mono ?_
  rintro e w1 ⟨g, rfl, i1, b1⟩
  have I1 := hid i1
  have B1 := hid b1
  clear b1 i1
  go_wp2_with fail
  go_ret
  exact ⟨_, rfl, I1.out, B1.out⟩

set_option maxHeartbeats 1000000 in
theorem check_neg (d : Int) (h : d < 0) (h0 : -9223372036854775808 ≤ d) (w : World) (ht : Tab w) : Calls Ybad.prog 17 #[.string { data := #[71, 105, 118, 101, 66, 97, 99, 107] }, .int .i64 d] w fun e w' => ∃ g, e = .returned (.iface 37 (.pointer (some ⟨g, 0, none⟩))) ∧ IsErr w' g { data := #[71, 105, 118, 101, 66, 97, 99, 107] } (txt d) { data := #[105, 115, 32, 110, 101, 103, 97, 116, 105, 118, 101] } ∧ Below w.heap.size w w' := by
  go_enter Ybad.func17, Ybad.ntmps17
  go_wp2_with fail
  refine (least_any w).mono ?_
  rintro e w1 ⟨rfl, rfl⟩
  go_wp2_with fail
  refine (below_any _ d h0 (by omega) w1 ht).mono ?_
  rintro e w2 ⟨g, rfl, i1, b1⟩
  have I1 := hid i1
  have B1 := hid b1
  clear b1 i1
  go_wp2_with fail
  go_ret
  exact ⟨_, rfl, I1.out, B1.out⟩

set_option maxHeartbeats 1000000 in
theorem after_neg (p : Value) (d : Int) (h : d < 0) (h0 : -9223372036854775808 ≤ d) (w : World) (ht : Tab w) :
    Calls Ybad.prog 7 #[p, .int .i64 d] w fun e w' => ∃ g, e = .returned (.tuple #[.pointer none, .iface 37 (.pointer (some ⟨g, 0, none⟩))]) ∧ IsErr w' g { data := #[71, 105, 118, 101, 66, 97, 99, 107] } (txt d) { data := #[105, 115, 32, 110, 101, 103, 97, 116, 105, 118, 101] } ∧ Below w.heap.size w w' := by
  go_enter Ybad.func7, Ybad.ntmps7
  go_wp2_with fail
  refine (check_neg d h h0 w ht).mono ?_
  rintro e w2 ⟨g, rfl, i1, b1⟩
  have I1 := hid i1
  have B1 := hid b1
  clear b1 i1
  go_wp2_with fail
  go_ret2
  exact ⟨_, rfl, I1.out, B1.out⟩

theorem pool_neq (b mx pr : Int) (ng : Bool) (sm : Int) (dg : ByteArray) (ex fl : Int) (fe ft : Bool) (gb : Int) (og : Bool) (w : World) :
    (binOp .neq 32 (.agg #[.int .i64 b, .bool ng, .int .u64 sm, .string dg, .int .i32 ex, .int .i64 mx, .int .i64 pr, .int .i64 fl, .bool fe, .bool ft, .int .i64 gb, .bool og]) (.agg #[.int .i64 b, .bool ng, .int .u64 sm, .string dg, .int .i32 ex, .int .i64 mx, .int .i64 pr, .int .i64 fl, .bool fe, .bool ft, .int .i64 gb, .bool og])).run Ybad.prog w = .ok (.bool false) w := by
  simp [go_sem]

theorem g_pow : ∃ g, Ybad.prog.globalNamed "internal/strconv.uint64pow10" = some g := Option.isSome_iff_exists.1 (by kernel_rfl)
theorem Tab.kept {w w' : World} (h : Tab w) (hb : Below w.heap.size w w') : Tab w' := by
  obtain ⟨g, hg⟩ := g_pow
  exact Go.Joins.tab_stays hg h hb (Nat.le_refl _)

theorem assert_err (g : Nat) (w : World) : (Instr.typeAssert (.iface 37 (.pointer (some ⟨g, 0, none⟩))) 34 37 true).run Ybad.prog w = .ok (.tuple #[.pointer (some ⟨g, 0, none⟩), .bool true]) w := by kernel_rfl
theorem info32 : (Ybad.prog.info? 32).map (fun i => i.size) = some 12 := by kernel_rfl

theorem ptr_other (w : World) {g h : Nat} {cs ds : Array Value} (hg : IsPool w g cs) (hh : IsPool w h ds) (hne : g ≠ h) : (binOp .eql 25 (.pointer (some ⟨g, 0, none⟩)) (.pointer (some ⟨h, 0, none⟩))).run Ybad.prog w = .ok (.bool false) w := by
  obtain ⟨j, hj, hs⟩ := Option.map_eq_some_iff.1 info32
  exact run_eql_ptr_other w Ybad.underlying25 hj (by omega) (fun e => hne (by cases e; rfl)) hg hh

abbrev poolArr (b mx pr : Int) (ng : Bool) (sm : Int) (dg : ByteArray) (ex fl : Int) (fe ft : Bool) (gb : Int) (og : Bool) : Array Value :=
  #[.int .i64 b, .bool ng, .int .u64 sm, .string dg, .int .i32 ex, .int .i64 mx, .int .i64 pr, .int .i64 fl, .bool fe, .bool ft, .int .i64 gb, .bool og]

set_option maxHeartbeats 4000000 in
theorem giveBack_neg (b mx pr : Int) (ng : Bool) (sm : Int) (dg : ByteArray) (ex fl : Int) (fe ft : Bool) (gb : Int) (og : Bool) (d pv : Int) (hd : d < 0) (h0 : -9223372036854775808 ≤ d) (h1 : d ≤ 9223372036854775807) (w : World) (ht : Tab w) :
    Calls Ybad.prog 3 #[argC b mx pr ng sm dg ex fl fe ft gb og, .int .i64 d, .int .i64 pv] w fun e w' => e = .returned (.bool true) ∧ Below w.heap.size w w' := by
  go_enter Ybad.func3, Ybad.ntmps3
  go_wp2_with fail
  obtain ⟨wa, hwa⟩ : ∃ wa, wa = w.alloc (.cells #[.int .i64 b, .int .i64 mx, .int .i64 pr, .bool ng, .int .u64 sm, .string dg, .int .i32 ex, .int .i64 fl, .bool fe, .bool ft, .int .i64 gb, .bool og] 24) := ⟨_, rfl⟩
  rw [← hwa]
  have Ha := hid (show Below w.heap.size w wa from by rw [hwa]; exact (Below.refl _ _).alloc (Nat.le_refl _) _)
  clear hwa
  refine (build_any b mx pr ng sm dg ex fl fe ft gb og wa).mono ?_
  rintro e w1 ⟨rfl, i1, b1⟩
  have I1 := hid i1
  have B1 := hid (Ha.out.trans (b1.mono Ha.out.size))
  obtain ⟨c0, c1, c2, c3, c4, c5, c6, c7, c8, c9, c10, c11⟩ := i1.cells
  clear i1 b1 Ha
  go_wp2_with fail
  clear c0 c1 c2 c3 c4 c5 c6 c7 c8 c9 c10 c11
  obtain ⟨w2, hw2⟩ : ∃ w2, w2 = w1.alloc (.cells (poolArr b mx pr ng sm dg ex fl fe ft gb og) 32) := ⟨_, rfl⟩
  rw [← hw2]
  have b2 : Below w1.heap.size w1 w2 := by rw [hw2]; exact (Below.refl _ _).alloc (Nat.le_refl _) _
  have J2 := hid (show IsPool w2 w1.heap.size (pool b mx pr ng sm dg ex fl fe ft gb og) from by rw [hw2]; exact alloc_at _ _ _ rfl)
  have I2 := hid (I1.out.kept b2)
  have B2 := hid (B1.out.trans (b2.mono B1.out.size))
  have T2 := hid (Tab.kept ht B2.out)
  clear b2 hw2 I1 B1
  refine (after_neg _ d hd h0 w2 T2.out).mono ?_
  rintro e w3 ⟨g, rfl, e3, b3⟩
  have E3 := hid e3
  have I3 := hid (I2.out.kept b3)
  have J3 := hid (J2.out.kept b3)
  have B3 := hid (B2.out.trans (b3.mono B2.out.size))
  have T3 := hid (Tab.kept T2.out b3)
  clear e3 b3 I2 J2 B2 T2
  have hne : Nonempty (Later w3.heap.size w3) := ⟨⟨w3, Below.refl _ _⟩⟩
  have xp0 : ∀ x : Later w3.heap.size w3, x.1.cell? ⟨wa.heap.size + 1, 0, none⟩ = some (.int .i64 b) := fun x => x.cell (block_cell I3.out 0) I3.out.lt
  have xp1 : ∀ x : Later w3.heap.size w3, x.1.cell? ⟨wa.heap.size + 1, 1, none⟩ = some (.bool ng) := fun x => x.cell (block_cell I3.out 1) I3.out.lt
  have xp2 : ∀ x : Later w3.heap.size w3, x.1.cell? ⟨wa.heap.size + 1, 2, none⟩ = some (.int .u64 sm) := fun x => x.cell (block_cell I3.out 2) I3.out.lt
  have xp3 : ∀ x : Later w3.heap.size w3, x.1.cell? ⟨wa.heap.size + 1, 3, none⟩ = some (.string dg) := fun x => x.cell (block_cell I3.out 3) I3.out.lt
  have xp4 : ∀ x : Later w3.heap.size w3, x.1.cell? ⟨wa.heap.size + 1, 4, none⟩ = some (.int .i32 ex) := fun x => x.cell (block_cell I3.out 4) I3.out.lt
  have xp5 : ∀ x : Later w3.heap.size w3, x.1.cell? ⟨wa.heap.size + 1, 5, none⟩ = some (.int .i64 mx) := fun x => x.cell (block_cell I3.out 5) I3.out.lt
  have xp6 : ∀ x : Later w3.heap.size w3, x.1.cell? ⟨wa.heap.size + 1, 6, none⟩ = some (.int .i64 pr) := fun x => x.cell (block_cell I3.out 6) I3.out.lt
  have xp7 : ∀ x : Later w3.heap.size w3, x.1.cell? ⟨wa.heap.size + 1, 7, none⟩ = some (.int .i64 fl) := fun x => x.cell (block_cell I3.out 7) I3.out.lt
  have xp8 : ∀ x : Later w3.heap.size w3, x.1.cell? ⟨wa.heap.size + 1, 8, none⟩ = some (.bool fe) := fun x => x.cell (block_cell I3.out 8) I3.out.lt
  have xp9 : ∀ x : Later w3.heap.size w3, x.1.cell? ⟨wa.heap.size + 1, 9, none⟩ = some (.bool ft) := fun x => x.cell (block_cell I3.out 9) I3.out.lt
  have xp10 : ∀ x : Later w3.heap.size w3, x.1.cell? ⟨wa.heap.size + 1, 10, none⟩ = some (.int .i64 gb) := fun x => x.cell (block_cell I3.out 10) I3.out.lt
  have xp11 : ∀ x : Later w3.heap.size w3, x.1.cell? ⟨wa.heap.size + 1, 11, none⟩ = some (.bool og) := fun x => x.cell (block_cell I3.out 11) I3.out.lt
  have xq0 : ∀ x : Later w3.heap.size w3, x.1.cell? ⟨w1.heap.size, 0, none⟩ = some (.int .i64 b) := fun x => x.cell (block_cell J3.out 0) J3.out.lt
  have xq1 : ∀ x : Later w3.heap.size w3, x.1.cell? ⟨w1.heap.size, 1, none⟩ = some (.bool ng) := fun x => x.cell (block_cell J3.out 1) J3.out.lt
  have xq2 : ∀ x : Later w3.heap.size w3, x.1.cell? ⟨w1.heap.size, 2, none⟩ = some (.int .u64 sm) := fun x => x.cell (block_cell J3.out 2) J3.out.lt
  have xq3 : ∀ x : Later w3.heap.size w3, x.1.cell? ⟨w1.heap.size, 3, none⟩ = some (.string dg) := fun x => x.cell (block_cell J3.out 3) J3.out.lt
  have xq4 : ∀ x : Later w3.heap.size w3, x.1.cell? ⟨w1.heap.size, 4, none⟩ = some (.int .i32 ex) := fun x => x.cell (block_cell J3.out 4) J3.out.lt
  have xq5 : ∀ x : Later w3.heap.size w3, x.1.cell? ⟨w1.heap.size, 5, none⟩ = some (.int .i64 mx) := fun x => x.cell (block_cell J3.out 5) J3.out.lt
  have xq6 : ∀ x : Later w3.heap.size w3, x.1.cell? ⟨w1.heap.size, 6, none⟩ = some (.int .i64 pr) := fun x => x.cell (block_cell J3.out 6) J3.out.lt
  have xq7 : ∀ x : Later w3.heap.size w3, x.1.cell? ⟨w1.heap.size, 7, none⟩ = some (.int .i64 fl) := fun x => x.cell (block_cell J3.out 7) J3.out.lt
  have xq8 : ∀ x : Later w3.heap.size w3, x.1.cell? ⟨w1.heap.size, 8, none⟩ = some (.bool fe) := fun x => x.cell (block_cell J3.out 8) J3.out.lt
  have xq9 : ∀ x : Later w3.heap.size w3, x.1.cell? ⟨w1.heap.size, 9, none⟩ = some (.bool ft) := fun x => x.cell (block_cell J3.out 9) J3.out.lt
  have xq10 : ∀ x : Later w3.heap.size w3, x.1.cell? ⟨w1.heap.size, 10, none⟩ = some (.int .i64 gb) := fun x => x.cell (block_cell J3.out 10) J3.out.lt
  have xq11 : ∀ x : Later w3.heap.size w3, x.1.cell? ⟨w1.heap.size, 11, none⟩ = some (.bool og) := fun x => x.cell (block_cell J3.out 11) J3.out.lt
  have xn := fun (x : Later w3.heap.size w3) => pool_neq b mx pr ng sm dg ex fl fe ft gb og x.1
  go_wp2_with fail
  refine wp_region_later w3.heap.size (by kernel_rfl) (by kernel_rfl) ?_
  repeat (go_big_quiet_step (fail))
  refine wpQuiet_nil ?_
  rintro w4 ⟨⟨w4', b4⟩, hx⟩
  obtain rfl : w4 = w4' := hx
  have E4 := hid (show IsErr w4 g _ _ _ from (b4.block _ (Array.getElem?_eq_some_iff.1 E3.out).1).trans E3.out)
  have B4 := hid (B3.out.trans (b4.mono B3.out.size))
  have T4 := hid (Tab.kept T3.out b4)
  clear b4 hne xp0 xq0 xp1 xq1 xp2 xq2 xp3 xq3 xp4 xq4 xp5 xq5 xp6 xq6 xp7 xq7 xp8 xq8 xp9 xq9 xp10 xq10 xp11 xq11 xn I3 J3 B3 T3 E3
  have has := fun w => assert_err g w
  go_wp2_with fail
  have hne : Nonempty (Later w4.heap.size w4) := ⟨⟨w4, Below.refl _ _⟩⟩
  have hg4 : g < w4.heap.size := (Array.getElem?_eq_some_iff.1 E4.out).1
  have y0 : ∀ x : Later w4.heap.size w4, x.1.cell? ⟨g, 0, none⟩ = some (.string { data := #[71, 105, 118, 101, 66, 97, 99, 107] }) := fun x => x.cell (block_cell E4.out 0) hg4
  have y1 : ∀ x : Later w4.heap.size w4, x.1.cell? ⟨g, 1, none⟩ = some (.string (txt d)) := fun x => x.cell (block_cell E4.out 1) hg4
  have y2 : ∀ x : Later w4.heap.size w4, x.1.cell? ⟨g, 2, none⟩ = some (.string { data := #[105, 115, 32, 110, 101, 103, 97, 116, 105, 118, 101] }) := fun x => x.cell (block_cell E4.out 2) hg4
  have hA : Hid (∀ x : Later w4.heap.size w4, Calls Ybad.prog 8 #[.int .i64 d, .int .i64 10] x.1 fun e w' => e = .returned (.string (txt d)) ∧ Below x.1.heap.size x.1 w') := fun x =>
    formatInt d h0 h1 x.1 (Tab.kept T4.out x.2)
  refine wp_region_later w4.heap.size (by kernel_rfl) (by kernel_rfl) ?_
  repeat (go_big_quiet_step ((go_at_call 8; refine later_of (hA.out _) (Nat.le_refl _))))
  refine wpQuiet_nil ?_
  rintro w6 ⟨⟨w6', hb6⟩, hx⟩
  obtain rfl : w6 = w6' := hx
  have B6 := hid (B4.out.trans (hb6.mono B4.out.size))
  clear hb6
  go_wp2_with fail
  go_ret
  exact ⟨rfl, B6.out⟩

set_option maxHeartbeats 4000000 in
theorem giveBack_pos (b mx pr : Int) (ng : Bool) (sm : Int) (dg : ByteArray) (ex fl : Int) (fe ft : Bool) (gb : Int) (og : Bool) (d pv : Int) (hd : 0 ≤ d) (h0 : -9223372036854775808 ≤ d) (h1 : d ≤ 9223372036854775807) (w : World) (ht : Tab w) :
    Calls Ybad.prog 3 #[argC b mx pr ng sm dg ex fl fe ft gb og, .int .i64 d, .int .i64 pv] w fun e w' => e = .returned (.bool true) ∧ Below w.heap.size w w' := by
  go_enter Ybad.func3, Ybad.ntmps3
  go_wp2_with fail
  obtain ⟨wa, hwa⟩ : ∃ wa, wa = w.alloc (.cells #[.int .i64 b, .int .i64 mx, .int .i64 pr, .bool ng, .int .u64 sm, .string dg, .int .i32 ex, .int .i64 fl, .bool fe, .bool ft, .int .i64 gb, .bool og] 24) := ⟨_, rfl⟩
  rw [← hwa]
  have Ha := hid (show Below w.heap.size w wa from by rw [hwa]; exact (Below.refl _ _).alloc (Nat.le_refl _) _)
  clear hwa
  refine (build_any b mx pr ng sm dg ex fl fe ft gb og wa).mono ?_
  rintro e w1 ⟨rfl, i1, b1⟩
  have I1 := hid i1
  have B1 := hid (Ha.out.trans (b1.mono Ha.out.size))
  obtain ⟨c0, c1, c2, c3, c4, c5, c6, c7, c8, c9, c10, c11⟩ := i1.cells
  clear i1 b1 Ha
  go_wp2_with fail
  clear c0 c1 c2 c3 c4 c5 c6 c7 c8 c9 c10 c11
  obtain ⟨w2, hw2⟩ : ∃ w2, w2 = w1.alloc (.cells (poolArr b mx pr ng sm dg ex fl fe ft gb og) 32) := ⟨_, rfl⟩
  rw [← hw2]
  have b2 : Below w1.heap.size w1 w2 := by rw [hw2]; exact (Below.refl _ _).alloc (Nat.le_refl _) _
  have J2 := hid (show IsPool w2 w1.heap.size (pool b mx pr ng sm dg ex fl fe ft gb og) from by rw [hw2]; exact alloc_at _ _ _ rfl)
  have I2 := hid (I1.out.kept b2)
  have B2 := hid (B1.out.trans (b2.mono B1.out.size))
  have T2 := hid (Tab.kept ht B2.out)
  clear b2 hw2 I1 B1
  refine (after_pos b mx pr ng sm dg ex fl fe ft gb og d hd _ w2 I2.out).mono ?_
  rintro e w3 ⟨rfl, k3, b3⟩
  have K3 := hid k3
  have I3 := hid (I2.out.kept b3)
  have J3 := hid (J2.out.kept b3)
  have B3 := hid (B2.out.trans (b3.mono B2.out.size))
  have hI2 := I2.out.lt
  clear k3 b3 I2 J2 B2 T2
  have hne : Nonempty (Later w3.heap.size w3) := ⟨⟨w3, Below.refl _ _⟩⟩
  have xp0 : ∀ x : Later w3.heap.size w3, x.1.cell? ⟨wa.heap.size + 1, 0, none⟩ = some (.int .i64 b) := fun x => x.cell (block_cell I3.out 0) I3.out.lt
  have xp1 : ∀ x : Later w3.heap.size w3, x.1.cell? ⟨wa.heap.size + 1, 1, none⟩ = some (.bool ng) := fun x => x.cell (block_cell I3.out 1) I3.out.lt
  have xp2 : ∀ x : Later w3.heap.size w3, x.1.cell? ⟨wa.heap.size + 1, 2, none⟩ = some (.int .u64 sm) := fun x => x.cell (block_cell I3.out 2) I3.out.lt
  have xp3 : ∀ x : Later w3.heap.size w3, x.1.cell? ⟨wa.heap.size + 1, 3, none⟩ = some (.string dg) := fun x => x.cell (block_cell I3.out 3) I3.out.lt
  have xp4 : ∀ x : Later w3.heap.size w3, x.1.cell? ⟨wa.heap.size + 1, 4, none⟩ = some (.int .i32 ex) := fun x => x.cell (block_cell I3.out 4) I3.out.lt
  have xp5 : ∀ x : Later w3.heap.size w3, x.1.cell? ⟨wa.heap.size + 1, 5, none⟩ = some (.int .i64 mx) := fun x => x.cell (block_cell I3.out 5) I3.out.lt
  have xp6 : ∀ x : Later w3.heap.size w3, x.1.cell? ⟨wa.heap.size + 1, 6, none⟩ = some (.int .i64 pr) := fun x => x.cell (block_cell I3.out 6) I3.out.lt
  have xp7 : ∀ x : Later w3.heap.size w3, x.1.cell? ⟨wa.heap.size + 1, 7, none⟩ = some (.int .i64 fl) := fun x => x.cell (block_cell I3.out 7) I3.out.lt
  have xp8 : ∀ x : Later w3.heap.size w3, x.1.cell? ⟨wa.heap.size + 1, 8, none⟩ = some (.bool fe) := fun x => x.cell (block_cell I3.out 8) I3.out.lt
  have xp9 : ∀ x : Later w3.heap.size w3, x.1.cell? ⟨wa.heap.size + 1, 9, none⟩ = some (.bool ft) := fun x => x.cell (block_cell I3.out 9) I3.out.lt
  have xp10 : ∀ x : Later w3.heap.size w3, x.1.cell? ⟨wa.heap.size + 1, 10, none⟩ = some (.int .i64 gb) := fun x => x.cell (block_cell I3.out 10) I3.out.lt
  have xp11 : ∀ x : Later w3.heap.size w3, x.1.cell? ⟨wa.heap.size + 1, 11, none⟩ = some (.bool og) := fun x => x.cell (block_cell I3.out 11) I3.out.lt
  have xq0 : ∀ x : Later w3.heap.size w3, x.1.cell? ⟨w1.heap.size, 0, none⟩ = some (.int .i64 b) := fun x => x.cell (block_cell J3.out 0) J3.out.lt
  have xq1 : ∀ x : Later w3.heap.size w3, x.1.cell? ⟨w1.heap.size, 1, none⟩ = some (.bool ng) := fun x => x.cell (block_cell J3.out 1) J3.out.lt
  have xq2 : ∀ x : Later w3.heap.size w3, x.1.cell? ⟨w1.heap.size, 2, none⟩ = some (.int .u64 sm) := fun x => x.cell (block_cell J3.out 2) J3.out.lt
  have xq3 : ∀ x : Later w3.heap.size w3, x.1.cell? ⟨w1.heap.size, 3, none⟩ = some (.string dg) := fun x => x.cell (block_cell J3.out 3) J3.out.lt
  have xq4 : ∀ x : Later w3.heap.size w3, x.1.cell? ⟨w1.heap.size, 4, none⟩ = some (.int .i32 ex) := fun x => x.cell (block_cell J3.out 4) J3.out.lt
  have xq5 : ∀ x : Later w3.heap.size w3, x.1.cell? ⟨w1.heap.size, 5, none⟩ = some (.int .i64 mx) := fun x => x.cell (block_cell J3.out 5) J3.out.lt
  have xq6 : ∀ x : Later w3.heap.size w3, x.1.cell? ⟨w1.heap.size, 6, none⟩ = some (.int .i64 pr) := fun x => x.cell (block_cell J3.out 6) J3.out.lt
  have xq7 : ∀ x : Later w3.heap.size w3, x.1.cell? ⟨w1.heap.size, 7, none⟩ = some (.int .i64 fl) := fun x => x.cell (block_cell J3.out 7) J3.out.lt
  have xq8 : ∀ x : Later w3.heap.size w3, x.1.cell? ⟨w1.heap.size, 8, none⟩ = some (.bool fe) := fun x => x.cell (block_cell J3.out 8) J3.out.lt
  have xq9 : ∀ x : Later w3.heap.size w3, x.1.cell? ⟨w1.heap.size, 9, none⟩ = some (.bool ft) := fun x => x.cell (block_cell J3.out 9) J3.out.lt
  have xq10 : ∀ x : Later w3.heap.size w3, x.1.cell? ⟨w1.heap.size, 10, none⟩ = some (.int .i64 gb) := fun x => x.cell (block_cell J3.out 10) J3.out.lt
  have xq11 : ∀ x : Later w3.heap.size w3, x.1.cell? ⟨w1.heap.size, 11, none⟩ = some (.bool og) := fun x => x.cell (block_cell J3.out 11) J3.out.lt
  have xn := fun (x : Later w3.heap.size w3) => pool_neq b mx pr ng sm dg ex fl fe ft gb og x.1
  go_wp2_with fail
  refine wp_region_later w3.heap.size (by kernel_rfl) (by kernel_rfl) ?_
  repeat (go_big_quiet_step (fail))
  refine wpQuiet_nil ?_
  rintro w4 ⟨⟨w4', b4⟩, hx⟩
  obtain rfl : w4 = w4' := hx
  have K4 := hid (K3.out.kept b4)
  have I4 := hid (I3.out.kept b4)
  have J4 := hid (J3.out.kept b4)
  have B4 := hid (B3.out.trans (b4.mono B3.out.size))
  clear b4 hne xp0 xq0 xp1 xq1 xp2 xq2 xp3 xq3 xp4 xq4 xp5 xq5 xp6 xq6 xp7 xq7 xp8 xq8 xp9 xq9 xp10 xq10 xp11 xq11 xn I3 J3 B3 K3
  have hpo := ptr_other w4 K4.out I4.out (by omega)
  obtain ⟨c0, c1, c2, c3, c4, c5, c6, c7, c8, c9, c10, c11⟩ := J4.out.cells
  go_wp2_with fail
  clear c0 c1 c2 c3 c4 c5 c6 c7 c8 c9 c10 c11 hpo
  obtain ⟨w5, hw5⟩ : ∃ w5, w5 = w4.alloc (.cells (poolArr b mx pr ng sm dg ex fl fe ft d true) 32) := ⟨_, rfl⟩
  rw [← hw5]
  have b5 : Below w4.heap.size w4 w5 := by rw [hw5]; exact (Below.refl _ _).alloc (Nat.le_refl _) _
  have M5 := hid (show IsPool w5 w4.heap.size (pool b mx pr ng sm dg ex fl fe ft d true) from by rw [hw5]; exact alloc_at _ _ _ rfl)
  have K5 := hid (K4.out.kept b5)
  have B5 := hid (B4.out.trans (b5.mono B4.out.size))
  clear hw5 b5 K4 I4 J4 B4
  have hne : Nonempty (Later w5.heap.size w5) := ⟨⟨w5, Below.refl _ _⟩⟩
  have xp0 : ∀ x : Later w5.heap.size w5, x.1.cell? ⟨w2.heap.size, 0, none⟩ = some (.int .i64 b) := fun x => x.cell (block_cell K5.out 0) K5.out.lt
  have xp1 : ∀ x : Later w5.heap.size w5, x.1.cell? ⟨w2.heap.size, 1, none⟩ = some (.bool ng) := fun x => x.cell (block_cell K5.out 1) K5.out.lt
  have xp2 : ∀ x : Later w5.heap.size w5, x.1.cell? ⟨w2.heap.size, 2, none⟩ = some (.int .u64 sm) := fun x => x.cell (block_cell K5.out 2) K5.out.lt
  have xp3 : ∀ x : Later w5.heap.size w5, x.1.cell? ⟨w2.heap.size, 3, none⟩ = some (.string dg) := fun x => x.cell (block_cell K5.out 3) K5.out.lt
  have xp4 : ∀ x : Later w5.heap.size w5, x.1.cell? ⟨w2.heap.size, 4, none⟩ = some (.int .i32 ex) := fun x => x.cell (block_cell K5.out 4) K5.out.lt
  have xp5 : ∀ x : Later w5.heap.size w5, x.1.cell? ⟨w2.heap.size, 5, none⟩ = some (.int .i64 mx) := fun x => x.cell (block_cell K5.out 5) K5.out.lt
  have xp6 : ∀ x : Later w5.heap.size w5, x.1.cell? ⟨w2.heap.size, 6, none⟩ = some (.int .i64 pr) := fun x => x.cell (block_cell K5.out 6) K5.out.lt
  have xp7 : ∀ x : Later w5.heap.size w5, x.1.cell? ⟨w2.heap.size, 7, none⟩ = some (.int .i64 fl) := fun x => x.cell (block_cell K5.out 7) K5.out.lt
  have xp8 : ∀ x : Later w5.heap.size w5, x.1.cell? ⟨w2.heap.size, 8, none⟩ = some (.bool fe) := fun x => x.cell (block_cell K5.out 8) K5.out.lt
  have xp9 : ∀ x : Later w5.heap.size w5, x.1.cell? ⟨w2.heap.size, 9, none⟩ = some (.bool ft) := fun x => x.cell (block_cell K5.out 9) K5.out.lt
  have xp10 : ∀ x : Later w5.heap.size w5, x.1.cell? ⟨w2.heap.size, 10, none⟩ = some (.int .i64 d) := fun x => x.cell (block_cell K5.out 10) K5.out.lt
  have xp11 : ∀ x : Later w5.heap.size w5, x.1.cell? ⟨w2.heap.size, 11, none⟩ = some (.bool true) := fun x => x.cell (block_cell K5.out 11) K5.out.lt
  have xq0 : ∀ x : Later w5.heap.size w5, x.1.cell? ⟨w4.heap.size, 0, none⟩ = some (.int .i64 b) := fun x => x.cell (block_cell M5.out 0) M5.out.lt
  have xq1 : ∀ x : Later w5.heap.size w5, x.1.cell? ⟨w4.heap.size, 1, none⟩ = some (.bool ng) := fun x => x.cell (block_cell M5.out 1) M5.out.lt
  have xq2 : ∀ x : Later w5.heap.size w5, x.1.cell? ⟨w4.heap.size, 2, none⟩ = some (.int .u64 sm) := fun x => x.cell (block_cell M5.out 2) M5.out.lt
  have xq3 : ∀ x : Later w5.heap.size w5, x.1.cell? ⟨w4.heap.size, 3, none⟩ = some (.string dg) := fun x => x.cell (block_cell M5.out 3) M5.out.lt
  have xq4 : ∀ x : Later w5.heap.size w5, x.1.cell? ⟨w4.heap.size, 4, none⟩ = some (.int .i32 ex) := fun x => x.cell (block_cell M5.out 4) M5.out.lt
  have xq5 : ∀ x : Later w5.heap.size w5, x.1.cell? ⟨w4.heap.size, 5, none⟩ = some (.int .i64 mx) := fun x => x.cell (block_cell M5.out 5) M5.out.lt
  have xq6 : ∀ x : Later w5.heap.size w5, x.1.cell? ⟨w4.heap.size, 6, none⟩ = some (.int .i64 pr) := fun x => x.cell (block_cell M5.out 6) M5.out.lt
  have xq7 : ∀ x : Later w5.heap.size w5, x.1.cell? ⟨w4.heap.size, 7, none⟩ = some (.int .i64 fl) := fun x => x.cell (block_cell M5.out 7) M5.out.lt
  have xq8 : ∀ x : Later w5.heap.size w5, x.1.cell? ⟨w4.heap.size, 8, none⟩ = some (.bool fe) := fun x => x.cell (block_cell M5.out 8) M5.out.lt
  have xq9 : ∀ x : Later w5.heap.size w5, x.1.cell? ⟨w4.heap.size, 9, none⟩ = some (.bool ft) := fun x => x.cell (block_cell M5.out 9) M5.out.lt
  have xq10 : ∀ x : Later w5.heap.size w5, x.1.cell? ⟨w4.heap.size, 10, none⟩ = some (.int .i64 d) := fun x => x.cell (block_cell M5.out 10) M5.out.lt
  have xq11 : ∀ x : Later w5.heap.size w5, x.1.cell? ⟨w4.heap.size, 11, none⟩ = some (.bool true) := fun x => x.cell (block_cell M5.out 11) M5.out.lt
  have xn := fun (x : Later w5.heap.size w5) => pool_neq b mx pr ng sm dg ex fl fe ft d true x.1
  refine wp_region_later w5.heap.size (by kernel_rfl) (by kernel_rfl) ?_
  repeat (go_big_quiet_step (fail))
  refine wpQuiet_nil ?_
  rintro w6 ⟨⟨w6', b6⟩, hx⟩
  obtain rfl : w6 = w6' := hx
  have K6 := hid (K5.out.kept b6)
  have B6 := hid (B5.out.trans (b6.mono B5.out.size))
  clear b6 hne xp0 xq0 xp1 xq1 xp2 xq2 xp3 xq3 xp4 xq4 xp5 xq5 xp6 xq6 xp7 xq7 xp8 xq8 xp9 xq9 xp10 xq10 xp11 xq11 xn K5 M5 B5
  go_wp2_with fail
  refine (delay_any b mx pr ng sm dg ex fl fe ft d true pv _ _ K6.out).mono ?_
  rintro e w7 ⟨rfl, b7⟩
  have B7 := hid (B6.out.trans (b7.mono B6.out.size))
  clear b7
  go_wp2_with fail
  go_ret
  exact ⟨by simp, B7.out⟩

end Go.Proofs.YbulkcakaDoor.GB
