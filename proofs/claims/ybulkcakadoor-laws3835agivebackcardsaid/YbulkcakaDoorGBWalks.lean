import Derived.Test.YbulkcakaDoorRows
import Derived.Test.YbulkcakaDoorExt
import Derived.WalkKit
import Derived.WalkSpells
import Derived.WalkLawsBesides
import Derived.BigQuiet
namespace Go.Proofs.YbulkcakaDoor.GB
open Go.RowKit Ext
set_option maxRecDepth 10000
set_option linter.unusedSimpArgs false
set_option linter.unusedVariables false

def gbS : ByteArray := ⟨#[71, 105, 118, 101, 66, 97, 99, 107]⟩

set_option maxHeartbeats 1000000 in
theorem least_any (w : World) : Calls Ybad.prog 21 #[.string { data := #[71, 105, 118, 101, 66, 97, 99, 107] }] w fun e w' => e = .returned (.tuple #[.int .i64 0, .bool true]) ∧ w' = w := by
  go_enter Ybad.func21, Ybad.ntmps21
  go_wp2_with fail
  go_ret2
  exact ⟨rfl, rfl⟩

set_option maxHeartbeats 1000000 in
theorem check_pos (d : Int) (h : 0 ≤ d) (w : World) : Calls Ybad.prog 17 #[.string { data := #[71, 105, 118, 101, 66, 97, 99, 107] }, .int .i64 d] w fun e w' => e = .returned .nilIface ∧ w' = w := by
  go_enter Ybad.func17, Ybad.ntmps17
  go_wp2_with fail
  refine (least_any w).mono ?_
  rintro e w1 ⟨rfl, rfl⟩
  go_wp2_with fail
  go_ret
  exact ⟨rfl, rfl⟩

/-- A pool's cells. -/
def pool (b mx pr : Int) (ng : Bool) (sm : Int) (dg : ByteArray) (ex fl : Int) (fe ft : Bool) (gb : Int) (og : Bool) : Array Value :=
  #[.int .i64 b, .bool ng, .int .u64 sm, .string dg, .int .i32 ex, .int .i64 mx, .int .i64 pr, .int .i64 fl, .bool fe, .bool ft, .int .i64 gb, .bool og]

def IsPool (w : World) (g : Nat) (cs : Array Value) : Prop := w.heap[g]? = some (.cells cs 32 (0, 0))

theorem block_cell {w : World} {a : Nat} {cs : Array Value} {t : TypeId} {fz : Nat × Nat} (h : w.heap[a]? = some (.cells cs t fz)) (i : Nat) : w.cell? ⟨a, i, none⟩ = cs[i]? := by simp [World.cell?, h]
theorem alloc_at (w : World) (o : Obj) (b : Nat) (h : b = w.heap.size) : (w.alloc o).heap[b]? = some o := by subst h; exact heap_alloc_new w o

theorem IsPool.kept {w w' : World} {g : Nat} {cs : Array Value} (h : IsPool w g cs) (hb : Below w.heap.size w w') : IsPool w' g cs := (hb.block _ (Array.getElem?_eq_some_iff.1 h).1).trans h
theorem IsPool.lt {w : World} {g : Nat} {cs : Array Value} (h : IsPool w g cs) : g < w.heap.size := (Array.getElem?_eq_some_iff.1 h).1

set_option maxHeartbeats 1000000 in
theorem inner_any (b mx pr : Int) (ng : Bool) (sm : Int) (dg : ByteArray) (ex fl : Int) (fe ft : Bool) (gb : Int) (og : Bool) (pv : Int) (g : Nat) (w : World) (h : IsPool w g (pool b mx pr ng sm dg ex fl fe ft gb og)) :
    Calls Ybad.prog 19 #[.pointer (some ⟨g, 0, none⟩), .agg #[.int .i64 pv, .int .i64 0, .int .i64 0]] w fun e w' => (∃ s, e = .returned (.tuple #[.int .i64 (if og then gb else pv), .string s])) ∧ Below w.heap.size w w' := by
  have hl := h.lt
  have c4 : ∀ o, (w.alloc o).cell? ⟨g, 10, none⟩ = some (.int .i64 gb) := fun o => by rw [World.cell?_alloc_lt _ _ _ hl]; exact block_cell h 10
  have c5 : ∀ o, (w.alloc o).cell? ⟨g, 11, none⟩ = some (.bool og) := fun o => by rw [World.cell?_alloc_lt _ _ _ hl]; exact block_cell h 11
  cases og
  · go_enter Ybad.func19, Ybad.ntmps19
    go_wp2_with fail
    go_ret2
    exact ⟨⟨_, rfl⟩, (Below.refl _ _).alloc (Nat.le_refl _) _⟩
  · go_enter Ybad.func19, Ybad.ntmps19
    go_wp2_with fail
    go_ret2
    exact ⟨⟨_, rfl⟩, (Below.refl _ _).alloc (Nat.le_refl _) _⟩

set_option maxHeartbeats 1000000 in
theorem delay_any (b mx pr : Int) (ng : Bool) (sm : Int) (dg : ByteArray) (ex fl : Int) (fe ft : Bool) (gb : Int) (og : Bool) (pv : Int) (g : Nat) (w : World) (h : IsPool w g (pool b mx pr ng sm dg ex fl fe ft gb og)) :
    Calls Ybad.prog 9 #[.pointer (some ⟨g, 0, none⟩), .agg #[.int .i64 pv, .int .i64 0, .int .i64 0]] w fun e w' => e = .returned (.int .i64 (if og then gb else pv)) ∧ Below w.heap.size w w' := by
  cases og <;> (
  go_enter Ybad.func9, Ybad.ntmps9
  go_wp2_with fail
  refine (inner_any b mx pr ng sm dg ex fl fe ft gb _ pv g _ (h.kept ((Below.refl _ _).alloc (Nat.le_refl _) _))).mono ?_
  rintro e w1 ⟨⟨s, rfl⟩, hb⟩
  have Hb := hid (((Below.refl w.heap.size w).alloc (Nat.le_refl _) _).trans (hb.mono (by simp)))
  clear hb
  go_wp2_with fail
  go_ret
  exact ⟨rfl, Hb.out⟩)

set_option maxHeartbeats 1000000 in
theorem after_pos (b mx pr : Int) (ng : Bool) (sm : Int) (dg : ByteArray) (ex fl : Int) (fe ft : Bool) (gb : Int) (og : Bool) (d : Int) (hd : 0 ≤ d) (g : Nat) (w : World) (h : IsPool w g (pool b mx pr ng sm dg ex fl fe ft gb og)) :
    Calls Ybad.prog 7 #[.pointer (some ⟨g, 0, none⟩), .int .i64 d] w fun e w' => e = .returned (.tuple #[.pointer (some ⟨w.heap.size, 0, none⟩), .nilIface]) ∧ IsPool w' w.heap.size (pool b mx pr ng sm dg ex fl fe ft d true) ∧ Below w.heap.size w w' := by
  have hl := h.lt
  have c : ∀ i, w.cell? ⟨g, i, none⟩ = (pool b mx pr ng sm dg ex fl fe ft gb og)[i]? := fun i => block_cell h i
  have c0 := c 0
  have c1 := c 1
  have c2 := c 2
  have c3 := c 3
  have c4 := c 4
  have c5 := c 5
  have c6 := c 6
  have c7 := c 7
  have c8 := c 8
  have c9 := c 9
  have c10 := c 10
  have c11 := c 11
  simp only [pool] at c0 c1 c2 c3 c4 c5 c6 c7 c8 c9 c10 c11
  simp at c0 c1 c2 c3 c4 c5 c6 c7 c8 c9 c10 c11
  clear c h
  go_enter Ybad.func7, Ybad.ntmps7
  go_wp2_with fail
  refine (check_pos d hd w).mono ?_
  rintro e w1 ⟨rfl, rfl⟩
  go_wp2_with fail
  go_ret2
  refine ⟨rfl, ?_, ?_⟩
  · exact alloc_at _ _ _ rfl
  · exact (Below.refl _ _).alloc (Nat.le_refl _) _

set_option maxHeartbeats 1000000 in
theorem build_any (b mx pr : Int) (ng : Bool) (sm : Int) (dg : ByteArray) (ex fl : Int) (fe ft : Bool) (gb : Int) (og : Bool) (w : World) :
    Calls Ybad.prog 6 #[.agg #[.int .i64 b, .int .i64 mx, .int .i64 pr, .bool ng, .int .u64 sm, .string dg, .int .i32 ex, .int .i64 fl, .bool fe, .bool ft, .int .i64 gb, .bool og]] w fun e w' => e = .returned (.pointer (some ⟨w.heap.size + 1, 0, none⟩)) ∧ IsPool w' (w.heap.size + 1) (pool b mx pr ng sm dg ex fl fe ft gb og) ∧ Below w.heap.size w w' := by
  go_enter Ybad.func6, Ybad.ntmps6
  go_wp2_with fail
  go_ret
  refine ⟨rfl, ?_, ?_⟩
  · exact alloc_at _ _ _ (by simp)
  · exact ((Below.refl _ _).alloc (Nat.le_refl _) _).alloc (by simp) _

abbrev argC (b mx pr : Int) (ng : Bool) (sm : Int) (dg : ByteArray) (ex fl : Int) (fe ft : Bool) (gb : Int) (og : Bool) : Value :=
  .agg #[.int .i64 b, .int .i64 mx, .int .i64 pr, .bool ng, .int .u64 sm, .string dg, .int .i32 ex, .int .i64 fl, .bool fe, .bool ft, .int .i64 gb, .bool og]

theorem IsPool.cells {w : World} {g : Nat} {b mx pr : Int} {ng : Bool} {sm : Int} {dg : ByteArray} {ex fl : Int} {fe ft : Bool} {gb : Int} {og : Bool} (h : IsPool w g (pool b mx pr ng sm dg ex fl fe ft gb og)) :
    w.cell? ⟨g, 0, none⟩ = some (.int .i64 b) ∧ w.cell? ⟨g, 1, none⟩ = some (.bool ng) ∧ w.cell? ⟨g, 2, none⟩ = some (.int .u64 sm) ∧ w.cell? ⟨g, 3, none⟩ = some (.string dg) ∧ w.cell? ⟨g, 4, none⟩ = some (.int .i32 ex) ∧ w.cell? ⟨g, 5, none⟩ = some (.int .i64 mx) ∧ w.cell? ⟨g, 6, none⟩ = some (.int .i64 pr) ∧ w.cell? ⟨g, 7, none⟩ = some (.int .i64 fl) ∧ w.cell? ⟨g, 8, none⟩ = some (.bool fe) ∧ w.cell? ⟨g, 9, none⟩ = some (.bool ft) ∧ w.cell? ⟨g, 10, none⟩ = some (.int .i64 gb) ∧ w.cell? ⟨g, 11, none⟩ = some (.bool og) :=
  ⟨block_cell h 0, block_cell h 1, block_cell h 2, block_cell h 3, block_cell h 4, block_cell h 5, block_cell h 6, block_cell h 7, block_cell h 8, block_cell h 9, block_cell h 10, block_cell h 11⟩

theorem pool_eq (b mx pr : Int) (ng : Bool) (sm : Int) (dg : ByteArray) (ex fl : Int) (fe ft : Bool) (gb : Int) (og : Bool) (w : World) :
    (binOp .eql 32 (.agg #[.int .i64 b, .bool ng, .int .u64 sm, .string dg, .int .i32 ex, .int .i64 mx, .int .i64 pr, .int .i64 fl, .bool fe, .bool ft, .int .i64 gb, .bool og]) (.agg #[.int .i64 b, .bool ng, .int .u64 sm, .string dg, .int .i32 ex, .int .i64 mx, .int .i64 pr, .int .i64 fl, .bool fe, .bool ft, .int .i64 gb, .bool og])).run Ybad.prog w = .ok (.bool true) w := by
  simp [go_sem]

set_option maxHeartbeats 4000000 in
theorem lastWins_false (b mx pr : Int) (ng : Bool) (sm : Int) (dg : ByteArray) (ex fl : Int) (fe ft : Bool) (gb : Int) (d1 d2 pv : Int) (h1 : 0 ≤ d1) (h1' : d1 ≤ 4294967295) (h2 : 0 ≤ d2) (h2' : d2 ≤ 4294967295) (w : World) :
    Calls Ybad.prog 4 #[argC b mx pr ng sm dg ex fl fe ft gb false, .int .u32 d1, .int .u32 d2, .int .i64 pv] w fun e w' => e = .returned (.bool true) ∧ Below w.heap.size w w' := by
  go_enter Ybad.func4, Ybad.ntmps4
  go_wp2_with fail
  obtain ⟨wa, hwa⟩ : ∃ wa, wa = w.alloc (.cells #[.int .i64 b, .int .i64 mx, .int .i64 pr, .bool ng, .int .u64 sm, .string dg, .int .i32 ex, .int .i64 fl, .bool fe, .bool ft, .int .i64 gb, .bool false] 24) := ⟨_, rfl⟩
  rw [← hwa]
  have Ha := hid (show Below w.heap.size w wa from by rw [hwa]; exact (Below.refl _ _).alloc (Nat.le_refl _) _)
  have hsa : w.heap.size < wa.heap.size := by rw [hwa]; simp
  have ca : wa.cell? ⟨w.heap.size, 10, none⟩ = some (.int .i64 gb) := by rw [hwa]; exact World.cell?_alloc_new _ _ _ 10
  have cb : wa.cell? ⟨w.heap.size, 11, none⟩ = some (.bool false) := by rw [hwa]; exact World.cell?_alloc_new _ _ _ 11
  clear hwa
  refine (build_any b mx pr ng sm dg ex fl fe ft gb false wa).mono ?_
  rintro e w1 ⟨rfl, i1, b1⟩
  have I1 := hid i1
  have B1 := hid (Ha.out.trans (b1.mono (by omega)))
  have ca1 := (b1.cell (p := ⟨w.heap.size, 10, none⟩) hsa).trans ca
  have cb1 := (b1.cell (p := ⟨w.heap.size, 11, none⟩) hsa).trans cb
  clear i1 b1 Ha ca cb
  go_wp2_with fail
  refine (delay_any b mx pr ng sm dg ex fl fe ft gb false pv _ _ I1.out).mono ?_
  rintro e w2 ⟨rfl, b2⟩
  have I2 := hid (I1.out.kept b2)
  have B2 := hid (B1.out.trans (b2.mono B1.out.size))
  clear b2 B1 I1 ca1 cb1
  go_wp2_with fail
  refine (after_pos b mx pr ng sm dg ex fl fe ft gb false d1 h1 _ w2 I2.out).mono ?_
  rintro e w3 ⟨rfl, j3, b3⟩
  have I3 := hid (I2.out.kept b3)
  have J3 := hid j3
  have B3 := hid (B2.out.trans (b3.mono B2.out.size))
  clear b3 j3 B2 I2
  go_wp2_with fail
  refine (after_pos b mx pr ng sm dg ex fl fe ft d1 true d2 h2 _ w3 J3.out).mono ?_
  rintro e w4 ⟨rfl, k4, b4⟩
  have I4 := hid (I3.out.kept b4)
  have J4 := hid (J3.out.kept b4)
  have K4 := hid k4
  have B4 := hid (B3.out.trans (b4.mono B3.out.size))
  clear b4 k4 B3 I3 J3
  go_wp2_with fail
  refine (after_pos b mx pr ng sm dg ex fl fe ft gb false d2 h2 _ w4 I4.out).mono ?_
  rintro e w5 ⟨rfl, l5, b5⟩
  have J5 := hid (J4.out.kept b5)
  have K5 := hid (K4.out.kept b5)
  have L5 := hid l5
  have B5 := hid (B4.out.trans (b5.mono B4.out.size))
  clear b5 l5 B4 I4 J4 K4
  have jg : w5.cell? ⟨w2.heap.size, 10, none⟩ = some (.int .i64 d1) := block_cell J5.out 10
  have jo : w5.cell? ⟨w2.heap.size, 11, none⟩ = some (.bool true) := block_cell J5.out 11
  go_wp2_with fail
  have xk0 : ∀ x : Later w5.heap.size w5, x.1.cell? ⟨w3.heap.size, 0, none⟩ = some (.int .i64 b) := fun x => x.cell (block_cell K5.out 0) K5.out.lt
  have xk1 : ∀ x : Later w5.heap.size w5, x.1.cell? ⟨w3.heap.size, 1, none⟩ = some (.bool ng) := fun x => x.cell (block_cell K5.out 1) K5.out.lt
  have xk2 : ∀ x : Later w5.heap.size w5, x.1.cell? ⟨w3.heap.size, 2, none⟩ = some (.int .u64 sm) := fun x => x.cell (block_cell K5.out 2) K5.out.lt
  have xk3 : ∀ x : Later w5.heap.size w5, x.1.cell? ⟨w3.heap.size, 3, none⟩ = some (.string dg) := fun x => x.cell (block_cell K5.out 3) K5.out.lt
  have xk4 : ∀ x : Later w5.heap.size w5, x.1.cell? ⟨w3.heap.size, 4, none⟩ = some (.int .i32 ex) := fun x => x.cell (block_cell K5.out 4) K5.out.lt
  have xk5 : ∀ x : Later w5.heap.size w5, x.1.cell? ⟨w3.heap.size, 5, none⟩ = some (.int .i64 mx) := fun x => x.cell (block_cell K5.out 5) K5.out.lt
  have xk6 : ∀ x : Later w5.heap.size w5, x.1.cell? ⟨w3.heap.size, 6, none⟩ = some (.int .i64 pr) := fun x => x.cell (block_cell K5.out 6) K5.out.lt
  have xk7 : ∀ x : Later w5.heap.size w5, x.1.cell? ⟨w3.heap.size, 7, none⟩ = some (.int .i64 fl) := fun x => x.cell (block_cell K5.out 7) K5.out.lt
  have xk8 : ∀ x : Later w5.heap.size w5, x.1.cell? ⟨w3.heap.size, 8, none⟩ = some (.bool fe) := fun x => x.cell (block_cell K5.out 8) K5.out.lt
  have xk9 : ∀ x : Later w5.heap.size w5, x.1.cell? ⟨w3.heap.size, 9, none⟩ = some (.bool ft) := fun x => x.cell (block_cell K5.out 9) K5.out.lt
  have xk10 : ∀ x : Later w5.heap.size w5, x.1.cell? ⟨w3.heap.size, 10, none⟩ = some (.int .i64 d2) := fun x => x.cell (block_cell K5.out 10) K5.out.lt
  have xk11 : ∀ x : Later w5.heap.size w5, x.1.cell? ⟨w3.heap.size, 11, none⟩ = some (.bool true) := fun x => x.cell (block_cell K5.out 11) K5.out.lt
  have xl0 : ∀ x : Later w5.heap.size w5, x.1.cell? ⟨w4.heap.size, 0, none⟩ = some (.int .i64 b) := fun x => x.cell (block_cell L5.out 0) L5.out.lt
  have xl1 : ∀ x : Later w5.heap.size w5, x.1.cell? ⟨w4.heap.size, 1, none⟩ = some (.bool ng) := fun x => x.cell (block_cell L5.out 1) L5.out.lt
  have xl2 : ∀ x : Later w5.heap.size w5, x.1.cell? ⟨w4.heap.size, 2, none⟩ = some (.int .u64 sm) := fun x => x.cell (block_cell L5.out 2) L5.out.lt
  have xl3 : ∀ x : Later w5.heap.size w5, x.1.cell? ⟨w4.heap.size, 3, none⟩ = some (.string dg) := fun x => x.cell (block_cell L5.out 3) L5.out.lt
  have xl4 : ∀ x : Later w5.heap.size w5, x.1.cell? ⟨w4.heap.size, 4, none⟩ = some (.int .i32 ex) := fun x => x.cell (block_cell L5.out 4) L5.out.lt
  have xl5 : ∀ x : Later w5.heap.size w5, x.1.cell? ⟨w4.heap.size, 5, none⟩ = some (.int .i64 mx) := fun x => x.cell (block_cell L5.out 5) L5.out.lt
  have xl6 : ∀ x : Later w5.heap.size w5, x.1.cell? ⟨w4.heap.size, 6, none⟩ = some (.int .i64 pr) := fun x => x.cell (block_cell L5.out 6) L5.out.lt
  have xl7 : ∀ x : Later w5.heap.size w5, x.1.cell? ⟨w4.heap.size, 7, none⟩ = some (.int .i64 fl) := fun x => x.cell (block_cell L5.out 7) L5.out.lt
  have xl8 : ∀ x : Later w5.heap.size w5, x.1.cell? ⟨w4.heap.size, 8, none⟩ = some (.bool fe) := fun x => x.cell (block_cell L5.out 8) L5.out.lt
  have xl9 : ∀ x : Later w5.heap.size w5, x.1.cell? ⟨w4.heap.size, 9, none⟩ = some (.bool ft) := fun x => x.cell (block_cell L5.out 9) L5.out.lt
  have xl10 : ∀ x : Later w5.heap.size w5, x.1.cell? ⟨w4.heap.size, 10, none⟩ = some (.int .i64 d2) := fun x => x.cell (block_cell L5.out 10) L5.out.lt
  have xl11 : ∀ x : Later w5.heap.size w5, x.1.cell? ⟨w4.heap.size, 11, none⟩ = some (.bool true) := fun x => x.cell (block_cell L5.out 11) L5.out.lt
  have heq := fun (x : Later w5.heap.size w5) => pool_eq b mx pr ng sm dg ex fl fe ft d2 true x.1
  have hA : Hid (∀ x : Later w5.heap.size w5, Calls Ybad.prog 9 #[.pointer (some ⟨w3.heap.size, 0, none⟩), .agg #[.int .i64 pv, .int .i64 0, .int .i64 0]] x.1 fun e w' => e = .returned (.int .i64 d2) ∧ Below x.1.heap.size x.1 w') := fun x =>
    delay_any b mx pr ng sm dg ex fl fe ft d2 true pv _ x.1 (K5.out.kept x.2)
  have hne : Nonempty (Later w5.heap.size w5) := ⟨⟨w5, Below.refl _ _⟩⟩
  clear jg jo
  refine wp_region_later w5.heap.size (by kernel_rfl) (by kernel_rfl) ?_
  repeat (go_big_quiet_step ((go_at_call 9; refine later_of (hA.out _) (Nat.le_refl _))))
  refine wpQuiet_nil ?_
  rintro w6 ⟨⟨w6', hb6⟩, hx⟩
  obtain rfl : w6 = w6' := hx
  have B6 := hid (B5.out.trans (hb6.mono B5.out.size))
  clear hb6
  go_wp2_with fail
  go_ret
  exact ⟨rfl, B6.out⟩
set_option maxHeartbeats 4000000 in
theorem lastWins_true (b mx pr : Int) (ng : Bool) (sm : Int) (dg : ByteArray) (ex fl : Int) (fe ft : Bool) (gb : Int) (d1 d2 pv : Int) (h1 : 0 ≤ d1) (h1' : d1 ≤ 4294967295) (h2 : 0 ≤ d2) (h2' : d2 ≤ 4294967295) (w : World) :
    Calls Ybad.prog 4 #[argC b mx pr ng sm dg ex fl fe ft gb true, .int .u32 d1, .int .u32 d2, .int .i64 pv] w fun e w' => e = .returned (.bool true) ∧ Below w.heap.size w w' := by
  go_enter Ybad.func4, Ybad.ntmps4
  go_wp2_with fail
  obtain ⟨wa, hwa⟩ : ∃ wa, wa = w.alloc (.cells #[.int .i64 b, .int .i64 mx, .int .i64 pr, .bool ng, .int .u64 sm, .string dg, .int .i32 ex, .int .i64 fl, .bool fe, .bool ft, .int .i64 gb, .bool true] 24) := ⟨_, rfl⟩
  rw [← hwa]
  have Ha := hid (show Below w.heap.size w wa from by rw [hwa]; exact (Below.refl _ _).alloc (Nat.le_refl _) _)
  have hsa : w.heap.size < wa.heap.size := by rw [hwa]; simp
  have ca : wa.cell? ⟨w.heap.size, 10, none⟩ = some (.int .i64 gb) := by rw [hwa]; exact World.cell?_alloc_new _ _ _ 10
  have cb : wa.cell? ⟨w.heap.size, 11, none⟩ = some (.bool true) := by rw [hwa]; exact World.cell?_alloc_new _ _ _ 11
  clear hwa
  refine (build_any b mx pr ng sm dg ex fl fe ft gb true wa).mono ?_
  rintro e w1 ⟨rfl, i1, b1⟩
  have I1 := hid i1
  have B1 := hid (Ha.out.trans (b1.mono (by omega)))
  have ca1 := (b1.cell (p := ⟨w.heap.size, 10, none⟩) hsa).trans ca
  have cb1 := (b1.cell (p := ⟨w.heap.size, 11, none⟩) hsa).trans cb
  clear i1 b1 Ha ca cb
  go_wp2_with fail
  refine (delay_any b mx pr ng sm dg ex fl fe ft gb true pv _ _ I1.out).mono ?_
  rintro e w2 ⟨rfl, b2⟩
  have I2 := hid (I1.out.kept b2)
  have B2 := hid (B1.out.trans (b2.mono B1.out.size))
  clear b2 B1 I1 ca1 cb1
  go_wp2_with fail
  refine (after_pos b mx pr ng sm dg ex fl fe ft gb true d1 h1 _ w2 I2.out).mono ?_
  rintro e w3 ⟨rfl, j3, b3⟩
  have I3 := hid (I2.out.kept b3)
  have J3 := hid j3
  have B3 := hid (B2.out.trans (b3.mono B2.out.size))
  clear b3 j3 B2 I2
  go_wp2_with fail
  refine (after_pos b mx pr ng sm dg ex fl fe ft d1 true d2 h2 _ w3 J3.out).mono ?_
  rintro e w4 ⟨rfl, k4, b4⟩
  have I4 := hid (I3.out.kept b4)
  have J4 := hid (J3.out.kept b4)
  have K4 := hid k4
  have B4 := hid (B3.out.trans (b4.mono B3.out.size))
  clear b4 k4 B3 I3 J3
  go_wp2_with fail
  refine (after_pos b mx pr ng sm dg ex fl fe ft gb true d2 h2 _ w4 I4.out).mono ?_
  rintro e w5 ⟨rfl, l5, b5⟩
  have J5 := hid (J4.out.kept b5)
  have K5 := hid (K4.out.kept b5)
  have L5 := hid l5
  have B5 := hid (B4.out.trans (b5.mono B4.out.size))
  clear b5 l5 B4 I4 J4 K4
  have jg : w5.cell? ⟨w2.heap.size, 10, none⟩ = some (.int .i64 d1) := block_cell J5.out 10
  have jo : w5.cell? ⟨w2.heap.size, 11, none⟩ = some (.bool true) := block_cell J5.out 11
  go_wp2_with fail
  have xk0 : ∀ x : Later w5.heap.size w5, x.1.cell? ⟨w3.heap.size, 0, none⟩ = some (.int .i64 b) := fun x => x.cell (block_cell K5.out 0) K5.out.lt
  have xk1 : ∀ x : Later w5.heap.size w5, x.1.cell? ⟨w3.heap.size, 1, none⟩ = some (.bool ng) := fun x => x.cell (block_cell K5.out 1) K5.out.lt
  have xk2 : ∀ x : Later w5.heap.size w5, x.1.cell? ⟨w3.heap.size, 2, none⟩ = some (.int .u64 sm) := fun x => x.cell (block_cell K5.out 2) K5.out.lt
  have xk3 : ∀ x : Later w5.heap.size w5, x.1.cell? ⟨w3.heap.size, 3, none⟩ = some (.string dg) := fun x => x.cell (block_cell K5.out 3) K5.out.lt
  have xk4 : ∀ x : Later w5.heap.size w5, x.1.cell? ⟨w3.heap.size, 4, none⟩ = some (.int .i32 ex) := fun x => x.cell (block_cell K5.out 4) K5.out.lt
  have xk5 : ∀ x : Later w5.heap.size w5, x.1.cell? ⟨w3.heap.size, 5, none⟩ = some (.int .i64 mx) := fun x => x.cell (block_cell K5.out 5) K5.out.lt
  have xk6 : ∀ x : Later w5.heap.size w5, x.1.cell? ⟨w3.heap.size, 6, none⟩ = some (.int .i64 pr) := fun x => x.cell (block_cell K5.out 6) K5.out.lt
  have xk7 : ∀ x : Later w5.heap.size w5, x.1.cell? ⟨w3.heap.size, 7, none⟩ = some (.int .i64 fl) := fun x => x.cell (block_cell K5.out 7) K5.out.lt
  have xk8 : ∀ x : Later w5.heap.size w5, x.1.cell? ⟨w3.heap.size, 8, none⟩ = some (.bool fe) := fun x => x.cell (block_cell K5.out 8) K5.out.lt
  have xk9 : ∀ x : Later w5.heap.size w5, x.1.cell? ⟨w3.heap.size, 9, none⟩ = some (.bool ft) := fun x => x.cell (block_cell K5.out 9) K5.out.lt
  have xk10 : ∀ x : Later w5.heap.size w5, x.1.cell? ⟨w3.heap.size, 10, none⟩ = some (.int .i64 d2) := fun x => x.cell (block_cell K5.out 10) K5.out.lt
  have xk11 : ∀ x : Later w5.heap.size w5, x.1.cell? ⟨w3.heap.size, 11, none⟩ = some (.bool true) := fun x => x.cell (block_cell K5.out 11) K5.out.lt
  have xl0 : ∀ x : Later w5.heap.size w5, x.1.cell? ⟨w4.heap.size, 0, none⟩ = some (.int .i64 b) := fun x => x.cell (block_cell L5.out 0) L5.out.lt
  have xl1 : ∀ x : Later w5.heap.size w5, x.1.cell? ⟨w4.heap.size, 1, none⟩ = some (.bool ng) := fun x => x.cell (block_cell L5.out 1) L5.out.lt
  have xl2 : ∀ x : Later w5.heap.size w5, x.1.cell? ⟨w4.heap.size, 2, none⟩ = some (.int .u64 sm) := fun x => x.cell (block_cell L5.out 2) L5.out.lt
  have xl3 : ∀ x : Later w5.heap.size w5, x.1.cell? ⟨w4.heap.size, 3, none⟩ = some (.string dg) := fun x => x.cell (block_cell L5.out 3) L5.out.lt
  have xl4 : ∀ x : Later w5.heap.size w5, x.1.cell? ⟨w4.heap.size, 4, none⟩ = some (.int .i32 ex) := fun x => x.cell (block_cell L5.out 4) L5.out.lt
  have xl5 : ∀ x : Later w5.heap.size w5, x.1.cell? ⟨w4.heap.size, 5, none⟩ = some (.int .i64 mx) := fun x => x.cell (block_cell L5.out 5) L5.out.lt
  have xl6 : ∀ x : Later w5.heap.size w5, x.1.cell? ⟨w4.heap.size, 6, none⟩ = some (.int .i64 pr) := fun x => x.cell (block_cell L5.out 6) L5.out.lt
  have xl7 : ∀ x : Later w5.heap.size w5, x.1.cell? ⟨w4.heap.size, 7, none⟩ = some (.int .i64 fl) := fun x => x.cell (block_cell L5.out 7) L5.out.lt
  have xl8 : ∀ x : Later w5.heap.size w5, x.1.cell? ⟨w4.heap.size, 8, none⟩ = some (.bool fe) := fun x => x.cell (block_cell L5.out 8) L5.out.lt
  have xl9 : ∀ x : Later w5.heap.size w5, x.1.cell? ⟨w4.heap.size, 9, none⟩ = some (.bool ft) := fun x => x.cell (block_cell L5.out 9) L5.out.lt
  have xl10 : ∀ x : Later w5.heap.size w5, x.1.cell? ⟨w4.heap.size, 10, none⟩ = some (.int .i64 d2) := fun x => x.cell (block_cell L5.out 10) L5.out.lt
  have xl11 : ∀ x : Later w5.heap.size w5, x.1.cell? ⟨w4.heap.size, 11, none⟩ = some (.bool true) := fun x => x.cell (block_cell L5.out 11) L5.out.lt
  have heq := fun (x : Later w5.heap.size w5) => pool_eq b mx pr ng sm dg ex fl fe ft d2 true x.1
  have hA : Hid (∀ x : Later w5.heap.size w5, Calls Ybad.prog 9 #[.pointer (some ⟨w3.heap.size, 0, none⟩), .agg #[.int .i64 pv, .int .i64 0, .int .i64 0]] x.1 fun e w' => e = .returned (.int .i64 d2) ∧ Below x.1.heap.size x.1 w') := fun x =>
    delay_any b mx pr ng sm dg ex fl fe ft d2 true pv _ x.1 (K5.out.kept x.2)
  have hne : Nonempty (Later w5.heap.size w5) := ⟨⟨w5, Below.refl _ _⟩⟩
  clear jg jo
  refine wp_region_later w5.heap.size (by kernel_rfl) (by kernel_rfl) ?_
  repeat (go_big_quiet_step ((go_at_call 9; refine later_of (hA.out _) (Nat.le_refl _))))
  refine wpQuiet_nil ?_
  rintro w6 ⟨⟨w6', hb6⟩, hx⟩
  obtain rfl : w6 = w6' := hx
  have B6 := hid (B5.out.trans (hb6.mono B5.out.size))
  clear hb6
  go_wp2_with fail
  go_ret
  exact ⟨rfl, B6.out⟩
end Go.Proofs.YbulkcakaDoor.GB
