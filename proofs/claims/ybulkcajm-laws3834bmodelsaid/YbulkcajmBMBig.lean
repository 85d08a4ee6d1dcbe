import Derived.Test.YbulkcajmRows
import Derived.WalkKit
import Derived.WalkSpells
import Derived.WalkLawsBesides
import Derived.Deep.QuietTactic
import Derived.BigQuiet
import Derived.LaidEqlPtr
namespace Go.Proofs.Ybulkcajm.BM
open Go.RowKit
set_option maxRecDepth 10000
set_option linter.unusedSimpArgs false
set_option linter.unusedVariables false

/-- Block a is a big.Int that holds x, made by SetUint64. -/
def Big (w : World) (a : Nat) (x : Int) : Prop :=
  ∃ v, w.heap[a]? = some (.cells #[.bool false, v] 65 (0, 0)) ∧
  ((x = 0 ∧ v = .slice none 0 0) ∨ (x ≠ 0 ∧ ∃ g, v = .slice (some ⟨g, 0, none⟩) 1 1 ∧ w.heap[g]? = some (.cells #[.int .u64 x] 79 (0, 0))))

theorem block_cell {w : World} {a : Nat} {cs : Array Value} {t : TypeId} {fz : Nat × Nat} (h : w.heap[a]? = some (.cells cs t fz)) (i : Nat) : w.cell? ⟨a, i, none⟩ = cs[i]? := by simp [World.cell?, h]
theorem block_frozen {w : World} {a : Nat} {cs : Array Value} {t : TypeId} (h : w.heap[a]? = some (.cells cs t (0, 0))) (i : Nat) : w.frozen? ⟨a, i, none⟩ = false := by simp [World.frozen?, h]
theorem block_set {w : World} {a : Nat} {cs : Array Value} {t : TypeId} {fz : Nat × Nat} (h : w.heap[a]? = some (.cells cs t fz)) (i : Nat) (v : Value) : (w.setCell ⟨a, i, none⟩ v).heap[a]? = some (.cells (cs.setIfInBounds i v) t fz) := by
  simp [World.setCell, Array.getElem?_modify, h]
theorem block_lt {w : World} {a : Nat} {o : Obj} (h : w.heap[a]? = some o) : a < w.heap.size := (Array.getElem?_eq_some_iff.1 h).1

theorem Big.lt {w : World} {a : Nat} {x : Int} (h : Big w a x) : a < w.heap.size := by obtain ⟨v, h, _⟩ := h; exact block_lt h

/-- Every block of cells that is no row of pointers to manifests is as it was. -/
def Keeps (w w' : World) : Prop := ∀ (k : Nat) (cs : Array Value) (t : TypeId) (fz : Nat × Nat), t ≠ 25 → w.heap[k]? = some (.cells cs t fz) → w'.heap[k]? = some (.cells cs t fz)

theorem Keeps.refl (w : World) : Keeps w w := fun _ _ _ _ _ h => h
theorem Keeps.trans {a b c : World} (h : Keeps a b) (k : Keeps b c) : Keeps a c := fun i cs t fz ht hi => k i cs t fz ht (h i cs t fz ht hi)
theorem Keeps.of_below {w w' : World} (hb : Below w.heap.size w w') : Keeps w w' := fun k _ _ _ _ h => (hb.block k (block_lt h)).trans h
theorem Keeps.of_setCell {w : World} {L : Nat} {cs : Array Value} {fz : Nat × Nat} (h : w.heap[L]? = some (.cells cs 25 fz)) (i : Nat) (v : Value) : Keeps w (w.setCell ⟨L, i, none⟩ v) := by
  intro k cs' t fz' ht hk
  rw [Below.heap_setCell _ _ _ _ (fun e => by
    have e' : k = L := e
    subst e'
    rw [h] at hk
    cases hk
    exact ht rfl)]
  exact hk

theorem Big.kept {w w' : World} {a : Nat} {x : Int} (h : Big w a x) (hb : Keeps w w') : Big w' a x := by
  obtain ⟨v, h0, h1⟩ := h
  refine ⟨v, hb _ _ _ _ (by decide) h0, ?_⟩
  rcases h1 with h1 | ⟨e, g, hv, h2⟩
  · exact .inl h1
  · exact .inr ⟨e, g, hv, hb _ _ _ _ (by decide) h2⟩

theorem Big.inj {w : World} {a : Nat} {x y : Int} (h : Big w a x) (h' : Big w a y) : x = y := by
  obtain ⟨v, h0, h1⟩ := h
  obtain ⟨v', h0', h1'⟩ := h'
  rw [h0] at h0'
  have ev : v = v' := by injection h0' with e; injection e with e; simpa using e
  subst ev
  rcases h1 with ⟨rfl, rfl⟩ | ⟨_, g, rfl, h2⟩ <;> rcases h1' with ⟨rfl, h1'⟩ | ⟨_, g', h1', h2'⟩
  · rfl
  · cases h1'
  · cases h1'
  · injection h1' with e
    injection e with e
    injection e with e
    subst e
    rw [h2] at h2'
    injection h2' with e
    injection e with e
    simpa using e

theorem Big.cells {w : World} {a : Nat} {x : Int} (h : Big w a x) : w.cell? ⟨a, 0, none⟩ = some (.bool false) ∧
    ((x = 0 ∧ w.cell? ⟨a, 1, none⟩ = some (.slice none 0 0)) ∨ (x ≠ 0 ∧ ∃ g, w.cell? ⟨a, 1, none⟩ = some (.slice (some ⟨g, 0, none⟩) 1 1) ∧ w.cell? ⟨g, 0, none⟩ = some (.int .u64 x))) := by
  obtain ⟨v, h0, h1⟩ := h
  refine ⟨by rw [block_cell h0]; rfl, ?_⟩
  rcases h1 with ⟨e, rfl⟩ | ⟨e, g, rfl, h2⟩
  · exact .inl ⟨e, by rw [block_cell h0]; rfl⟩
  · exact .inr ⟨e, g, by rw [block_cell h0]; rfl, by rw [block_cell h2]; rfl⟩

theorem big_zero (a : Nat) (w : World) (h : w.heap[a]? = some (.cells #[.bool false, .slice none 0 0] 65 (0, 0))) :
    Big ((w.setCell ⟨a, 1, none⟩ (.slice none 0 0)).setCell ⟨a, 0, none⟩ (.bool false)) a 0 := by
  refine ⟨_, block_set (block_set h 1 _) 0 _, .inl ⟨rfl, rfl⟩⟩

theorem big_pos (a : Nat) (x : Int) (hx : x ≠ 0) (w : World) (h : w.heap[a]? = some (.cells #[.bool false, .slice none 0 0] 65 (0, 0))) :
    Big (((w.setCell ⟨a, 1, none⟩ (.slice (some ⟨w.heap.size, 0, none⟩) 1 1)).setCell ⟨a, 0, none⟩ (.bool false)).alloc (.cells #[.int .u64 x] 79)) a x := by
  have ha := block_lt h
  have hs : ((w.setCell ⟨a, 1, none⟩ (.slice (some ⟨w.heap.size, 0, none⟩) 1 1)).setCell ⟨a, 0, none⟩ (.bool false)).heap.size = w.heap.size := by simp
  refine ⟨.slice (some ⟨w.heap.size, 0, none⟩) 1 1, ?_, .inr ⟨hx, w.heap.size, rfl, ?_⟩⟩
  · rw [Below.heap_alloc _ _ _ (by rw [hs]; exact ha)]; exact block_set (block_set h 1 _) 0 _
  · have := heap_alloc_new ((w.setCell ⟨a, 1, none⟩ (.slice (some ⟨w.heap.size, 0, none⟩) 1 1)).setCell ⟨a, 0, none⟩ (.bool false)) (.cells #[.int .u64 x] 79)
    rw [hs] at this
    exact this

set_option maxHeartbeats 400000 in
theorem setUint_any (a : Nat) (x : Int) (x0 : 0 ≤ x) (x1 : x < 18446744073709551616) (w : World) (h : w.heap[a]? = some (.cells #[.bool false, .slice none 0 0] 65 (0, 0))) :
    Calls Yba.prog 13 #[.pointer (some ⟨a, 0, none⟩), .int .u64 x] w fun e w' => e = .returned (.pointer (some ⟨a, 0, none⟩)) ∧ Big w' a x ∧ Below a w w' := by
  have ha : a < w.heap.size := block_lt h
  have h0 : w.cell? ⟨a, 0, none⟩ = some (.bool false) := block_cell h 0
  have h1 : w.cell? ⟨a, 1, none⟩ = some (.slice none 0 0) := block_cell h 1
  have f0 : w.frozen? ⟨a, 0, none⟩ = false := block_frozen h 0
  have f1 : w.frozen? ⟨a, 1, none⟩ = false := block_frozen h 1
  by_cases hx : x = 0
  · subst hx
    have hB := big_zero a w h
    clear h
    go_enter Yba.func13, Yba.ntmps13
    go_wp2
    go_ret
    exact ⟨rfl, hB, ((Below.refl _ _).setCell (by exact Nat.le_refl _) _).setCell (by exact Nat.le_refl _) _⟩
  · have hB := big_pos a x hx w h
    have hBe : Below a w (((w.setCell ⟨a, 1, none⟩ (.slice (some ⟨w.heap.size, 0, none⟩) 1 1)).setCell ⟨a, 0, none⟩ (.bool false)).alloc (.cells #[.int .u64 x] 79)) :=
      (((Below.refl _ _).setCell (by exact Nat.le_refl _) _).setCell (by exact Nat.le_refl _) _).alloc (by simp; omega) _
    have hxb : (x == 0) = false := by simpa using hx
    have k0 : ∀ o, (w.alloc o).cell? ⟨a, 0, none⟩ = some (.bool false) := fun o => by rw [World.cell?_alloc_lt w o _ ha]; exact h0
    have k1 : ∀ o, (w.alloc o).cell? ⟨a, 1, none⟩ = some (.slice none 0 0) := fun o => by rw [World.cell?_alloc_lt w o _ ha]; exact h1
    have g0 : ∀ o, (w.alloc o).frozen? ⟨a, 0, none⟩ = false := fun o => by rw [World.frozen?_alloc_old w o _ (Nat.ne_of_lt ha)]; exact f0
    have g1 : ∀ o, (w.alloc o).frozen? ⟨a, 1, none⟩ = false := fun o => by rw [World.frozen?_alloc_old w o _ (Nat.ne_of_lt ha)]; exact f1
    have hmk : ∀ w, (Instr.makeSlice 63 (.int .i64 1) (.int .i64 1)).run Yba.prog w = .ok (.slice (some ⟨w.heap.size, 0, none⟩) 1 1) (w.alloc (.cells #[.int .u64 0] 79)) := fun _ => by kernel_rfl
    clear hx
    clear h
    go_enter Yba.func13, Yba.ntmps13
    go_wp2
    go_ret
    exact ⟨rfl, hB, hBe⟩

/-- What Cmp gives. -/
def cmpN (x y : Int) : Int := if x < y then -1 else if y < x then 1 else 0

set_option maxHeartbeats 400000 in
theorem sign_any (a : Nat) (x : Int) (w : World) (h : Big w a x) :
    Calls Yba.prog 10 #[.pointer (some ⟨a, 0, none⟩)] w fun e w' => e = .returned (.int .i64 (if x = 0 then 0 else 1)) ∧ w' = w := by
  obtain ⟨h0, ⟨rfl, h1⟩ | ⟨hx, g, h1, h2⟩⟩ := h.cells
  · go_enter Yba.func10, Yba.ntmps10
    go_wp2
    go_ret
    exact ⟨rfl, rfl⟩
  · have H : Hid ((if x = 0 then (0 : Int) else 1) = 1) := by unfold Hid; rw [if_neg hx]
    go_enter Yba.func10, Yba.ntmps10
    go_wp2
    go_ret
    exact ⟨rfl, rfl⟩

set_option maxHeartbeats 400000 in
theorem uint64_any (a : Nat) (x : Int) (w : World) (h : Big w a x) :
    Calls Yba.prog 11 #[.pointer (some ⟨a, 0, none⟩)] w fun e w' => e = .returned (.int .u64 x) ∧ w' = w := by
  obtain ⟨h0, ⟨rfl, h1⟩ | ⟨hx, g, h1, h2⟩⟩ := h.cells
  · go_enter Yba.func11, Yba.ntmps11
    go_wp2
    go_ret
    exact ⟨rfl, rfl⟩
  · go_enter Yba.func11, Yba.ntmps11
    go_wp2
    go_ret
    exact ⟨rfl, rfl⟩

set_option maxHeartbeats 400000 in
theorem natcmp_00 (w : World) : Calls Yba.prog 30 #[.slice none 0 0, .slice none 0 0] w fun e w' => e = .returned (.int .i64 0) ∧ ∃ q, w' = w.drewN q := by
  go_enter Yba.func30, Yba.ntmps30
  go_wp2
  go_ret
  exact ⟨rfl, 0, rfl⟩

set_option maxHeartbeats 400000 in
theorem natcmp_01 (g : Nat) (w : World) : Calls Yba.prog 30 #[.slice none 0 0, .slice (some ⟨g, 0, none⟩) 1 1] w fun e w' => e = .returned (.int .i64 (-1)) ∧ ∃ q, w' = w.drewN q := by
  go_enter Yba.func30, Yba.ntmps30
  go_wp2
  go_ret
  exact ⟨rfl, 0, rfl⟩

set_option maxHeartbeats 400000 in
theorem natcmp_10 (g : Nat) (w : World) : Calls Yba.prog 30 #[.slice (some ⟨g, 0, none⟩) 1 1, .slice none 0 0] w fun e w' => e = .returned (.int .i64 1) ∧ ∃ q, w' = w.drewN q := by
  go_enter Yba.func30, Yba.ntmps30
  go_wp2
  go_ret
  exact ⟨rfl, 0, rfl⟩

set_option maxHeartbeats 400000 in
theorem natcmp_11 (g h : Nat) (x y : Int) (w : World) (hx : w.cell? ⟨g, 0, none⟩ = some (.int .u64 x)) (hy : w.cell? ⟨h, 0, none⟩ = some (.int .u64 y)) :
    Calls Yba.prog 30 #[.slice (some ⟨g, 0, none⟩) 1 1, .slice (some ⟨h, 0, none⟩) 1 1] w fun e w' => e = .returned (.int .i64 (cmpN x y)) ∧ ∃ q, w' = w.drewN q := by
  rcases (show x < y ∨ y < x ∨ x = y from by omega) with hh | hh | hh
  · have H : Hid (cmpN x y = -1) := by unfold Hid cmpN; rw [if_pos hh]
    go_enter Yba.func30, Yba.ntmps30
    go_wp2_with fail
    refine wp_loop_rounds 1 ?_
    rw [rounds_succ]
    go_wp2_with fail
    go_quiet (fail)
    go_wp2_with fail
    go_quiet (fail)
    go_wp2_with fail
    go_ret
    exact ⟨by rw [H.out]; rfl, by simp only [World.drewN_drewN]; exact ⟨_, rfl⟩⟩
  · have H : Hid (cmpN x y = 1) := by unfold Hid cmpN; rw [if_neg (by omega), if_pos hh]
    go_enter Yba.func30, Yba.ntmps30
    go_wp2_with fail
    refine wp_loop_rounds 1 ?_
    rw [rounds_succ]
    go_wp2_with fail
    go_quiet (fail)
    go_wp2_with fail
    go_quiet (fail)
    go_wp2_with fail
    go_quiet (fail)
    go_wp2_with fail
    go_ret
    exact ⟨by rw [H.out]; rfl, by simp only [World.drewN_drewN]; exact ⟨_, rfl⟩⟩
  · subst hh
    have H : Hid (cmpN x x = 0) := by unfold Hid cmpN; rw [if_neg (by omega), if_neg (by omega)]
    go_enter Yba.func30, Yba.ntmps30
    go_wp2_with fail
    refine wp_loop_rounds 1 ?_
    rw [rounds_succ]
    go_wp2_with fail
    go_quiet (fail)
    go_wp2_with fail
    go_quiet (fail)
    go_wp2_with fail
    go_quiet (fail)
    go_wp2_with fail
    go_ret
    exact ⟨by rw [H.out]; rfl, by simp only [World.drewN_drewN]; exact ⟨_, rfl⟩⟩

theorem info65 : (Yba.prog.info? 65).map (fun i => (i.zero, i.size, i.bytes)) = some (some (.agg #[.bool false, .slice none 0 0]), 2, 32) := by kernel_rfl

theorem cmp_same (a : Nat) (w : World) :
    Calls Yba.prog 16 #[.pointer (some ⟨a, 0, none⟩), .pointer (some ⟨a, 0, none⟩)] w fun e w' => e = .returned (.int .i64 0) ∧ ∃ q, w' = w.drewN q := by
  obtain ⟨i0, hi, hz0, hz1, hz2⟩ := info_parts info65
  have he := run_eql_ptr_same w ⟨a, 0, none⟩ Yba.underlying37 hi
  go_enter Yba.func16, Yba.ntmps16
  go_wp2_with fail
  go_ret
  exact ⟨rfl, 0, rfl⟩

set_option maxHeartbeats 400000 in
theorem cmp_core (a b : Nat) (vx vy : Value) (r : Int) (w : World)
    (he : (binOp .eql 37 (.pointer (some ⟨a, 0, none⟩)) (.pointer (some ⟨b, 0, none⟩))).run Yba.prog w = .ok (.bool false) w)
    (hx0 : w.cell? ⟨a, 0, none⟩ = some (.bool false)) (hx1 : w.cell? ⟨a, 1, none⟩ = some vx) (hy0 : w.cell? ⟨b, 0, none⟩ = some (.bool false)) (hy1 : w.cell? ⟨b, 1, none⟩ = some vy)
    (hn : Hid (∀ w1 : World, w1.heap = w.heap → Calls Yba.prog 30 #[vx, vy] w1 fun e w' => e = .returned (.int .i64 r) ∧ ∃ q, w' = w1.drewN q)) :
    Calls Yba.prog 16 #[.pointer (some ⟨a, 0, none⟩), .pointer (some ⟨b, 0, none⟩)] w fun e w' => e = .returned (.int .i64 r) ∧ ∃ q, w' = w.drewN q := by
  go_enter Yba.func16, Yba.ntmps16
  go_wp2_with fail
  go_quiet (fail)
  go_wp2_with fail
  obtain ⟨w1, hw1⟩ : ∃ w1, w1 = w.drewN nq := ⟨_, rfl⟩
  have W1 : Hid (w1 = w.drewN nq) := hw1
  have kx0 : w1.cell? ⟨a, 0, none⟩ = some (.bool false) := by rw [hw1]; exact hx0
  have kx1 : w1.cell? ⟨a, 1, none⟩ = some vx := by rw [hw1]; exact hx1
  have ky1 : w1.cell? ⟨b, 1, none⟩ = some vy := by rw [hw1]; exact hy1
  have hn1 : Hid (∀ n, Calls Yba.prog 30 #[vx, vy] (w1.drewN n) fun e w' => e = .returned (.int .i64 r) ∧ ∃ q, w' = (w1.drewN n).drewN q) := fun n => hn.out _ (by rw [hw1]; rfl)
  rw [← hw1]
  clear hw1 he hx0 hx1 hy0 hy1 hn
  go_quiet ((go_at_call 30; exact Calls.quiet_of (hn1.out _)))
  go_wp2_with fail
  go_ret
  exact ⟨rfl, by rw [W1.out]; simp only [World.drewN_drewN]; exact ⟨_, rfl⟩⟩

theorem cell_heap {w w1 : World} {p : Addr} {v : Value} (h : w1.heap = w.heap) (hc : w.cell? p = some v) : w1.cell? p = some v := by
  rw [← hc]; exact World.cell?_of_block (by rw [h])

theorem cmp_any (a b : Nat) (x y : Int) (x0 : 0 ≤ x) (y0 : 0 ≤ y) (w : World) (hx : Big w a x) (hy : Big w b y) (hab : a = b → x = y) :
    Calls Yba.prog 16 #[.pointer (some ⟨a, 0, none⟩), .pointer (some ⟨b, 0, none⟩)] w fun e w' => e = .returned (.int .i64 (cmpN x y)) ∧ ∃ q, w' = w.drewN q := by
  by_cases e : a = b
  · have e' := hab e
    subst e; subst e'
    have H : cmpN x x = 0 := by unfold cmpN; rw [if_neg (by omega), if_neg (by omega)]
    rw [H]
    exact cmp_same a w
  obtain ⟨i0, hi, hz0, hz1, hz2⟩ := info_parts info65
  obtain ⟨hx0, hx1⟩ := hx.cells
  obtain ⟨hy0, hy1⟩ := hy.cells
  obtain ⟨_, bx, _⟩ := hx
  obtain ⟨_, by', _⟩ := hy
  have he := run_eql_ptr_other w (a := ⟨a, 0, none⟩) (b := ⟨b, 0, none⟩) Yba.underlying37 hi (by omega) (by simp [e]) bx by'
  rcases hx1 with ⟨rfl, hx1⟩ | ⟨hxn, g, hx1, hx2⟩ <;> rcases hy1 with ⟨rfl, hy1⟩ | ⟨hyn, g', hy1, hy2⟩
  · exact cmp_core a b _ _ 0 w he hx0 hx1 hy0 hy1 (fun w1 h1 => natcmp_00 w1)
  · have H : cmpN 0 y = -1 := by unfold cmpN; rw [if_pos (by omega)]
    rw [H]
    exact cmp_core a b _ _ _ w he hx0 hx1 hy0 hy1 (fun w1 h1 => natcmp_01 g' w1)
  · have H : cmpN x 0 = 1 := by unfold cmpN; rw [if_neg (by omega), if_pos (by omega)]
    rw [H]
    exact cmp_core a b _ _ _ w he hx0 hx1 hy0 hy1 (fun w1 h1 => natcmp_10 g w1)
  · exact cmp_core a b _ _ _ w he hx0 hx1 hy0 hy1 (fun w1 h1 => natcmp_11 g g' x y w1 (cell_heap h1 hx2) (cell_heap h1 hy2))

/-- What zzs3834baki gives: the value of a slice of bytes whose string is 'akiS a'. -/
def akiS (a : Int) : ByteArray := if a % 4 ≤ 1 then ByteArray.empty else if a % 4 = 2 then ⟨#[1]⟩ else ⟨#[2]⟩

/-- The slice v reads as the bytes of s in w. -/
def Bytes (w : World) (v : Value) (s : ByteArray) : Prop :=
  (v = .slice none 0 0 ∧ s = ByteArray.empty) ∨ (∃ g, v = .slice (some ⟨g, 0, none⟩) 0 0 ∧ s = ByteArray.empty) ∨
  ∃ g c, v = .slice (some ⟨g, 0, none⟩) 1 1 ∧ s = ⟨#[c]⟩ ∧ w.heap[g]? = some (.cells #[.int .u8 c.toNat] 5 (0, 0))

set_option maxHeartbeats 400000 in
theorem aki_any (a : Int) (h0 : 0 ≤ a) (h1 : a ≤ 255) (w : World) :
    Calls Yba.prog 14 #[.int .u8 a] w fun e w' => ∃ v, e = .returned v ∧ Bytes w' v (akiS a) ∧ Below w.heap.size w w' := by
  rcases (show a % 4 = 0 ∨ a % 4 = 1 ∨ a % 4 = 2 ∨ a % 4 = 3 from by omega) with h | h | h | h
  · have H : Hid (akiS a = ByteArray.empty) := by unfold Hid akiS; rw [if_pos (by omega)]
    go_enter Yba.func14, Yba.ntmps14
    go_wp2
    go_ret
    exact ⟨_, rfl, .inl ⟨rfl, H.out⟩, Below.refl _ _⟩
  · have H : Hid (akiS a = ByteArray.empty) := by unfold Hid akiS; rw [if_pos (by omega)]
    go_enter Yba.func14, Yba.ntmps14
    go_wp2
    go_ret
    exact ⟨_, rfl, .inr (.inl ⟨_, rfl, H.out⟩), (Below.refl _ _).alloc (Nat.le_refl _) _⟩
  · have H : Hid (akiS a = ⟨#[1]⟩) := by unfold Hid akiS; rw [if_neg (by omega), if_pos h]
    go_enter Yba.func14, Yba.ntmps14
    go_wp2
    go_ret
    exact ⟨_, rfl, .inr (.inr ⟨_, _, rfl, H.out, heap_alloc_new _ _⟩), (Below.refl _ _).alloc (Nat.le_refl _) _⟩
  · have H : Hid (akiS a = ⟨#[2]⟩) := by unfold Hid akiS; rw [if_neg (by omega), if_neg (by omega)]
    go_enter Yba.func14, Yba.ntmps14
    go_wp2
    go_ret
    exact ⟨_, rfl, .inr (.inr ⟨_, _, rfl, H.out, heap_alloc_new _ _⟩), (Below.refl _ _).alloc (Nat.le_refl _) _⟩
end Go.Proofs.Ybulkcajm.BM
