import Derived.Test.YbulkcameRows
import Derived.Test.YbulkcameExt
import Derived.WalkKit
import Derived.WalkSpells
import Derived.WalkLawsBesides
import Derived.BigQuiet
import Derived.Lib.SliceRun
namespace Go.Proofs.Ybulkcame.CS
open Go.RowKit Ext
set_option maxRecDepth 10000
set_option linter.unusedSimpArgs false
set_option linter.unusedVariables false

abbrev zArr : Array Value := #[.int .i64 0, .string ⟨#[]⟩, .int .i64 0, .int .i64 0, .int .i64 0, .string ⟨#[]⟩, .string ⟨#[]⟩, .string ⟨#[]⟩, .slice none 0 0]
theorem zero45 (w : World) : (zeroValue 45).run Yba.prog w = .ok (.agg zArr) w := by kernel_rfl
theorem info45 : (Yba.prog.info? 45).map (fun i => (i.zero, i.size, i.bytes)) = some (some (.agg zArr), 9, 120) := by kernel_rfl

theorem block_cell {w : World} {a : Nat} {cs : Array Value} {t : TypeId} {fz : Nat × Nat} (h : w.heap[a]? = some (.cells cs t fz)) (i : Nat) : w.cell? ⟨a, i, none⟩ = cs[i]? := by simp [World.cell?, h]
theorem block_frozen {w : World} {a : Nat} {cs : Array Value} {t : TypeId} (h : w.heap[a]? = some (.cells cs t (0, 0))) (i : Nat) : w.frozen? ⟨a, i, none⟩ = false := by simp [World.frozen?, h]
theorem block_set {w : World} {a : Nat} {cs : Array Value} {t : TypeId} {fz : Nat × Nat} (h : w.heap[a]? = some (.cells cs t fz)) (i : Nat) (v : Value) : (w.setCell ⟨a, i, none⟩ v).heap[a]? = some (.cells (cs.setIfInBounds i v) t fz) := by
  simp [World.setCell, Array.getElem?_modify, h]
theorem block_lt {w : World} {a : Nat} {o : Obj} (h : w.heap[a]? = some o) : a < w.heap.size := (Array.getElem?_eq_some_iff.1 h).1
theorem alloc_at (w : World) (o : Obj) (b : Nat) (h : b = w.heap.size) : (w.alloc o).heap[b]? = some o := by subst h; exact heap_alloc_new w o

/-- Block g holds N fields, of which the first k bear one byte each, their own number. -/
def Fld (w : World) (g N k : Nat) : Prop :=
  ∃ cur : Array Value, w.heap[g]? = some (.cells cur 45 (0, 0)) ∧ cur.size = N * 9 ∧
    ∀ j, j < k → ∃ d, cur[j * 9 + 8]? = some (.slice (some ⟨d, 0, none⟩) 1 1) ∧ g < d ∧ w.heap[d]? = some (.cells #[.int .u8 ((j : Int) % 256)] 5 (0, 0))

theorem Fld.step {w : World} {g N k : Nat} (h : Fld w g N k) (hk : k < N) :
    Fld ((w.setCell ⟨g, k * 9 + 8, none⟩ (.slice (some ⟨w.heap.size, 0, none⟩) 1 1)).alloc (.cells #[.int .u8 ((k : Int) % 256)] 5)) g N (k + 1) := by
  obtain ⟨cur, h1, h2, h3⟩ := h
  have hg := block_lt h1
  have hsz : (w.setCell ⟨g, k * 9 + 8, none⟩ (.slice (some ⟨w.heap.size, 0, none⟩) 1 1)).heap.size = w.heap.size := by simp
  refine ⟨cur.setIfInBounds (k * 9 + 8) (.slice (some ⟨w.heap.size, 0, none⟩) 1 1), by rw [Below.heap_alloc _ _ _ (by rw [hsz]; exact hg)]; exact block_set h1 _ _, by simp [h2], fun j hj => ?_⟩
  by_cases e : j = k
  · subst e
    exact ⟨w.heap.size, by rw [Array.getElem?_setIfInBounds, if_pos rfl, if_pos (by omega)], hg, alloc_at _ _ _ hsz.symm⟩
  · obtain ⟨d, a, b, c⟩ := h3 j (by omega)
    refine ⟨d, ?_, b, ?_⟩
    · rw [Array.getElem?_setIfInBounds, if_neg (by omega)]; exact a
    · rw [Below.heap_alloc _ _ _ (by rw [hsz]; exact block_lt c), Below.heap_setCell _ _ _ _ (by show d ≠ g; omega)]; exact c

theorem Fld.old {w : World} {g N k : Nat} (h : Fld w g N k) (hk : k < N) : (∃ v, w.cell? ⟨g, k * 9 + 8, none⟩ = some v) ∧ w.frozen? ⟨g, k * 9 + 8, none⟩ = false := by
  obtain ⟨cur, h1, h2, _⟩ := h
  exact ⟨⟨cur[k * 9 + 8]'(by omega), by rw [block_cell h1, Array.getElem?_eq_getElem (by omega)]⟩, block_frozen h1 _⟩

set_option maxHeartbeats 1000000 in
theorem fields_any (n m : Nat) (hn : n ≤ 255) (hm : m ≤ 255) (w : World) :
    Calls Yba.prog 4 #[.int .i64 n, .int .i64 m] w fun e w' => e = .returned (.slice (some ⟨w.heap.size, 0, none⟩) n (n + m)) ∧ Fld w' w.heap.size (n + m) (n + m) ∧ Below w.heap.size w w' := by
  obtain ⟨i0, hi, hz0, hz1, hz2⟩ := info_parts info45
  go_enter Yba.func4, Yba.ntmps4
  go_wp2_with (at_make; refine wpList_make_full _ rfl _ _ 22 rfl w.heap.size 45 i0 _ 9 Yba.underlying22 hi hz0 hz1 _ _ _ _ (n + m) rfl rfl (by push_cast; rfl) (by push_cast; rfl) (by rw [hz2]; omega) (by unfold maxLen; omega) (Nat.le_refl _) ?_)
  intro w1 hown hgrow
  have hB1 : Below w.heap.size w w1 := (Below.refl _ _).grown hgrow (Nat.le_refl _) (fun k hk => by cases hk)
  have hF1 : Fld w1 w.heap.size (n + m) 0 := by
    rcases hown.2 with ⟨h, _⟩ | ⟨g', cap, cur, hv, _, hh, _, _, hs, _⟩
    · cases h
    · cases hv
      exact ⟨cur, hh, hs, fun j hj => by omega⟩
  have HB := hid hB1
  have HF := hid hF1
  clear hown hgrow hB1 hF1 hi hz0 hz1 hz2
  go_wp2_with fail
  go_loopw [6] (fun i wr => ∃ k : Nat, k ≤ n + m ∧ i = .int .i64 k ∧ Fld wr w.heap.size (n + m) k ∧ Below w.heap.size w wr) (fun i _ => n + m - (intOf i).toNat)
  case atStart => exact ⟨0, Nat.zero_le _, rfl, HF.out, HB.out⟩
  case round =>
    clear HF HB
    obtain ⟨k, hk, rfl, hF, hBl⟩ := hrel
    by_cases hlt : k < n + m
    · obtain ⟨⟨v1, c1⟩, f1⟩ := hF.old hlt
      have hg : w.heap.size < wr.heap.size := by obtain ⟨_, h, _⟩ := hF; exact block_lt h
      have HF := hid (hF.step hlt)
      have HB := hid ((hBl.setCell (p := ⟨w.heap.size, k * 9 + 8, none⟩) (Nat.le_refl _) (.slice (some ⟨wr.heap.size, 0, none⟩) 1 1)).alloc (by simp; omega) (.cells #[.int .u8 ((k : Int) % 256)] 5))
      clear hF hBl
      go_wp2_with fail
      go_roundw
      case rel => exact ⟨k + 1, by omega, by go_num, HF.out, HB.out⟩
      case measure => simp [intOf]; omega
    · have e : k = n + m := by omega
      have HF := hid (e ▸ hF)
      have HB := hid hBl
      clear hF hBl
      go_wp2_with fail
      go_ret
      exact ⟨rfl, HF.out, HB.out⟩

theorem zc_len (N : Nat) : (Builtin.zeroCells zArr N).toList.length = N * 9 := by simp [Builtin.zeroCells]
theorem zc_at (N i : Nat) (h : i < N * 9) : (Builtin.zeroCells zArr N).toList[i]? = some (zArr[i % 9]!) := by
  simp [Builtin.zeroCells, h]

theorem setCells_other (g : Nat) : ∀ (vs : List Value) (o : Nat) (w : World) (k : Nat), k ≠ g → (w.setCells g o vs).heap[k]? = w.heap[k]?
  | [], _, _, _, _ => rfl
  | v :: vs, o, w, k, h => by
    show ((w.setCell ⟨g, o, none⟩ v).setCells g (o + 1) vs).heap[k]? = _
    rw [setCells_other g vs (o + 1) _ k h, Below.heap_setCell _ _ _ _ h]
theorem setCells_size (g : Nat) : ∀ (vs : List Value) (o : Nat) (w : World), (w.setCells g o vs).heap.size = w.heap.size
  | [], _, _ => rfl
  | v :: vs, o, w => by
    show ((w.setCell ⟨g, o, none⟩ v).setCells g (o + 1) vs).heap.size = _
    rw [setCells_size g vs (o + 1) _]; simp

theorem run_clear9 (w : World) (ty : TypeId) (g N c : Nat) (hN : 0 < N) {k : Nat} (h : Fld w g N k) :
    (Builtin.clear_ #[22] ty #[.slice (some ⟨g, 0, none⟩) N c]).run Yba.prog w = .ok (.tuple #[]) (w.setCells g 0 (Builtin.zeroCells zArr N).toList) := by
  obtain ⟨cur, h1, h2, _⟩ := h
  have hst := run_storeCells_cells (P := Yba.prog) g 0 (Builtin.zeroCells zArr N).toList 0 w (fun j hj => by
      rw [zc_len] at hj
      simp only [Nat.zero_add, Nat.add_zero]
      rw [block_cell h1, Array.getElem?_eq_getElem (by omega)]; rfl)
    (fun j hj => block_frozen h1 _) (by
      intro v hv
      obtain ⟨i, hi, e⟩ := List.mem_iff_getElem.1 hv
      have := zc_at N i (by rw [zc_len] at hi; exact hi)
      rw [List.getElem?_eq_getElem hi, e] at this
      have hm : i % 9 < 9 := Nat.mod_lt _ (by decide)
      rw [Option.some.inj this]
      match i % 9, hm with
      | 0, _ => rfl | 1, _ => rfl | 2, _ => rfl | 3, _ => rfl | 4, _ => rfl | 5, _ => rfl | 6, _ => rfl | 7, _ => rfl | 8, _ => rfl)
  simp only [Nat.add_zero] at hst
  obtain ⟨m, rfl⟩ : ∃ m, N = m + 1 := ⟨N - 1, by omega⟩
  have hcs : (Value.agg zArr).cells = zArr := rfl
  simp [Builtin.clear_, run_underlying Yba.underlying22, zero45, hcs, hst]
end Go.Proofs.Ybulkcame.CS
