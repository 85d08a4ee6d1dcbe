import Derived.Test.YbulkcamsDoorKPState
import Derived.Test.YbulkcamsDoorKPTime
import Derived.Deep.DrawnRows
import Derived.Deep.Draws
namespace Go.Proofs.YbulkcamsDoor.KP
open Go.RowKit Ext
set_option maxRecDepth 10000
set_option linter.unusedSimpArgs false
set_option linter.unusedVariables false

def Ids (w : World) (b off n : Nat) (ids : Nat → Int) : Prop := ∀ j, j < n → w.cell? ⟨b, off + j, none⟩ = some (.int .u32 (ids j)) ∧ 0 ≤ ids j ∧ ids j < 4294967296

theorem firstB_of {ids : Nat → Int} {i : Nat} (h : ∀ m, m < i → ids m ≠ ids i) : firstB ids i = true := by
  unfold firstB
  cases hl : lastOcc ids i (ids i) with
  | none => rfl
  | some j => have := lastOcc_lt hl; exact absurd this.2 (h j this.1)
theorem firstB_not {ids : Nat → Int} {i m : Nat} (h : m < i) (e : ids m = ids i) : firstB ids i = false := by
  unfold firstB
  obtain ⟨j, hj, _⟩ := lastOcc_some e h
  rw [hj]; rfl


set_option maxHeartbeats 1000000 in
theorem first_any (b off n c i : Nat) (ids : Nat → Int) (w : World) (hn : n ≤ 100000) (hi : i < n) (hI : Ids w b off n ids) :
    Calls Ybad.prog 18 #[.slice (some ⟨b, off, none⟩) n c, .int .i64 i] w fun e w' => ∃ j : Nat, e = .returned (.int .i64 j) ∧ j ≤ i ∧ (j = i ↔ firstB ids i = true) ∧ ∃ q, w' = w.drewN q := by
  have H := hid hI
  have ci := (hI i hi).1
  clear hI
  go_enter Ybad.func18, Ybad.ntmps18
  go_wp2_with fail
  go_loopw [5] (fun v wq => ∃ k : Nat, k ≤ i ∧ v = .int .i64 k ∧ (∀ m, m < k → ids m ≠ ids i) ∧ ∃ q, wq = w.drewN q) (fun v _ => i - (intOf v).toNat)
  case atStart => exact ⟨0, Nat.zero_le _, rfl, fun m hm => by omega, 0, rfl⟩
  case round =>
    obtain ⟨k, hk, rfl, hno, q, rfl⟩ := hrel
    by_cases hlt : k < i
    · have ck := (H.out k (by omega)).1
      have HN := hid hno
      clear hno
      by_cases he : ids k = ids i
      · have HE := hid he
        have hb : (ids k == ids i) = true := by simp [he]
        clear he
        go_wp2_with fail
        go_quiet (fail)
        go_wp2_with fail
        go_ret
        exact ⟨k, rfl, by omega, ⟨fun e => by omega, fun e => by rw [firstB_not hlt HE.out] at e; cases e⟩, _, World.drewN_drewN _ _ _⟩
      · have HE := hid he
        have hb : (ids k == ids i) = false := by simp [he]
        clear he
        go_wp2_with fail
        go_quiet (fail)
        go_wp2_with fail
        go_roundw
        case rel => exact ⟨k + 1, by omega, rfl, fun m hm => by
          rcases Nat.lt_or_ge m k with g | g
          · exact HN.out m g
          · rw [show m = k by omega]; exact HE.out, _, rfl⟩
        case measure => simp [intOf]; omega
    · obtain rfl : k = i := by omega
      have HN := hid hno
      clear hno
      go_wp2_with fail
      go_ret
      exact ⟨k, rfl, Nat.le_refl _, ⟨fun _ => firstB_of HN.out, fun _ => rfl⟩, _, rfl⟩

set_option maxHeartbeats 1000000 in
theorem last_any (b off n c i : Nat) (ids : Nat → Int) (w : World) (hn : n ≤ 100000) (hi : i < n) (hI : Ids w b off n ids) :
    Calls Ybad.prog 19 #[.slice (some ⟨b, off, none⟩) n c, .int .i64 i] w fun e w' => ∃ j : Nat, e = .returned (.int .i64 j) ∧ lastOcc ids n (ids i) = some j ∧ ∃ q, w' = w.drewN q := by
  have H := hid hI
  have ci := (hI i hi).1
  clear hI
  go_enter Ybad.func19, Ybad.ntmps19
  go_wp2_with fail
  go_loopw [5, 6] (fun l v wq => ∃ k m : Nat, i < k ∧ k ≤ n ∧ v = .int .i64 k ∧ l = .int .i64 m ∧ lastOcc ids k (ids i) = some m ∧ ∃ q, wq = w.drewN q) (fun _ v _ => n - (intOf v).toNat)
  case atStart => exact ⟨i + 1, i, by omega, by omega, by simp, rfl, by simp [lastOcc], 0, rfl⟩
  case round =>
    obtain ⟨k, m, h1, hk, rfl, rfl, hno, q, rfl⟩ := hrel
    by_cases hlt : k < n
    · have ck := (H.out k (by omega)).1
      have HN := hid hno
      clear hno
      by_cases he : ids k = ids i
      · have HE := hid he
        have hb : (ids k == ids i) = true := by simp [he]
        clear he
        go_wp2_with fail
        go_quiet (fail)
        go_wp2_with fail
        go_roundw
        case rel => exact ⟨k + 1, k, by omega, by omega, rfl, rfl, by rw [lastOcc, if_pos HE.out], _, rfl⟩
        case measure => simp [intOf]; omega
      · have HE := hid he
        have hb : (ids k == ids i) = false := by simp [he]
        clear he
        go_wp2_with fail
        go_quiet (fail)
        go_wp2_with fail
        go_roundw
        case rel => exact ⟨k + 1, m, by omega, by omega, rfl, rfl, by rw [lastOcc, if_neg HE.out]; exact HN.out, _, rfl⟩
        case measure => simp [intOf]; omega
    · obtain rfl : k = n := by omega
      have HN := hid hno
      clear hno
      go_wp2_with fail
      go_ret
      exact ⟨m, rfl, HN.out, _, rfl⟩

theorem info67 : (Ybad.prog.info? 67).map (fun i => (i.zero, i.size, i.bytes)) = some (some (.agg #[.int .i64 0, .int .u32 0, .bool false, .slice none 0 0, .pointer none, .slice none 0 0]), 6, 72) := by kernel_rfl

abbrev txArr (id : Int) : List Value := [.int .i64 0, .int .u32 id, .bool false, .slice none 0 0, .pointer none, .slice none 0 0]

/-- Block R is a row of transactions, the first k of which bear the first k ids. -/
def Txs (w : World) (R n k : Nat) (ids : Nat → Int) : Prop :=
  ∃ cur : Array Value, w.heap[R]? = some (.cells cur 67 (0, 0)) ∧ cur.size = n * 6 ∧ ∀ j, j < n → cur[j * 6]? = some (.int .i64 0) ∧ (∃ v, cur[j * 6 + 1]? = some v ∧ (j < k → v = .int .u32 (ids j))) ∧ cur[j * 6 + 2]? = some (.bool false) ∧
    cur[j * 6 + 3]? = some (.slice none 0 0) ∧ cur[j * 6 + 4]? = some (.pointer none) ∧ cur[j * 6 + 5]? = some (.slice none 0 0)

theorem Txs.cell {w : World} {R n k : Nat} {ids : Nat → Int} (h : Txs w R n k ids) {j : Nat} (hj : j < n) :
    (w.cell? ⟨R, j * 6, none⟩ = some (.int .i64 0) ∧ (∃ v, w.cell? ⟨R, j * 6 + 1, none⟩ = some v ∧ (j < k → v = .int .u32 (ids j))) ∧ w.cell? ⟨R, j * 6 + 2, none⟩ = some (.bool false) ∧
    w.cell? ⟨R, j * 6 + 3, none⟩ = some (.slice none 0 0) ∧ w.cell? ⟨R, j * 6 + 4, none⟩ = some (.pointer none) ∧ w.cell? ⟨R, j * 6 + 5, none⟩ = some (.slice none 0 0)) ∧ ∀ i, w.frozen? ⟨R, i, none⟩ = false := by
  obtain ⟨cur, hb, _, hc⟩ := h
  obtain ⟨h0, ⟨v, h1, h1'⟩, h2, h3, h4, h5⟩ := hc j hj
  refine ⟨⟨?_, ⟨v, ?_, h1'⟩, ?_, ?_, ?_, ?_⟩, block_frozen hb⟩ <;> rw [block_cell hb] <;> assumption

theorem set_get {cs : Array Value} {i j : Nat} {v x : Value} (h : cs[j]? = some x) (hv : i = j → x = v) : (cs.setIfInBounds i v)[j]? = some x := by
  rw [Array.getElem?_setIfInBounds]
  split
  · next e => subst e; have := (Array.getElem?_eq_some_iff.1 h).1; simp [this, hv rfl]
  · exact h

theorem Txs.step {w : World} {R n k : Nat} {ids : Nat → Int} (h : Txs w R n k ids) (hk : k < n) :
    Txs ((((((w.setCell ⟨R, k * 6, none⟩ (.int .i64 0)).setCell ⟨R, k * 6 + 1, none⟩ (.int .u32 (ids k))).setCell ⟨R, k * 6 + 2, none⟩ (.bool false)).setCell ⟨R, k * 6 + 3, none⟩ (.slice none 0 0)).setCell ⟨R, k * 6 + 4, none⟩ (.pointer none)).setCell ⟨R, k * 6 + 5, none⟩ (.slice none 0 0)) R n (k + 1) ids := by
  obtain ⟨cur, hb, hs, hc⟩ := h
  refine ⟨_, block_set (block_set (block_set (block_set (block_set (block_set hb _ _) _ _) _ _) _ _) _ _) _ _, by simp [hs], fun j hj => ?_⟩
  obtain ⟨h0, ⟨v, h1, h1'⟩, h2, h3, h4, h5⟩ := hc j hj
  refine ⟨?_, ?_, ?_, ?_, ?_, ?_⟩
  · refine set_get (set_get (set_get (set_get (set_get (set_get h0 ?_) ?_) ?_) ?_) ?_) ?_ <;> first | (intro e; rfl) | (intro e; omega)
  · by_cases e : j = k
    · subst e
      refine ⟨.int .u32 (ids j), ?_, fun _ => rfl⟩
      have : (cur.setIfInBounds (j * 6) (.int .i64 0))[j * 6 + 1]? = some v := set_get h1 (by intro e; omega)
      have h' : ((cur.setIfInBounds (j * 6) (.int .i64 0)).setIfInBounds (j * 6 + 1) (.int .u32 (ids j)))[j * 6 + 1]? = some (.int .u32 (ids j)) := by
        rw [Array.getElem?_setIfInBounds, if_pos rfl, if_pos (Array.getElem?_eq_some_iff.1 this).1]
      refine set_get (set_get (set_get (set_get h' ?_) ?_) ?_) ?_ <;> (intro e; omega)
    · refine ⟨v, ?_, fun hj' => h1' (by omega)⟩
      refine set_get (set_get (set_get (set_get (set_get (set_get h1 ?_) ?_) ?_) ?_) ?_) ?_ <;> (intro e; omega)
  · refine set_get (set_get (set_get (set_get (set_get (set_get h2 ?_) ?_) ?_) ?_) ?_) ?_ <;> first | (intro e; rfl) | (intro e; omega)
  · refine set_get (set_get (set_get (set_get (set_get (set_get h3 ?_) ?_) ?_) ?_) ?_) ?_ <;> first | (intro e; rfl) | (intro e; omega)
  · refine set_get (set_get (set_get (set_get (set_get (set_get h4 ?_) ?_) ?_) ?_) ?_) ?_ <;> first | (intro e; rfl) | (intro e; omega)
  · refine set_get (set_get (set_get (set_get (set_get (set_get h5 ?_) ?_) ?_) ?_) ?_) ?_ <;> first | (intro e; rfl) | (intro e; omega)

set_option maxHeartbeats 1000000 in
theorem build_none (ao : Option Addr) (c : Nat) (w : World) :
    Calls Ybad.prog 7 #[.slice ao 0 c] w fun e w' => ∃ bo, e = .returned (.slice bo 0 0) ∧ Below w.heap.size w w' := by
  obtain ⟨i0, hi, hz0, hz1, hz2⟩ := info_parts info67
  go_enter Ybad.func7, Ybad.ntmps7
  go_wp2_with (at_make; refine wpList_make_full _ rfl _ _ 51 rfl w.heap.size 67 i0 _ 6 Ybad.underlying51 hi hz0 hz1 _ _ _ _ 0 rfl rfl rfl rfl (by rw [hz2]; omega) (by unfold maxLen; omega) (by simp) ?_)
  intro w1 hown hgrow
  have hB : Below w.heap.size w w1 := (Below.refl _ _).grown hgrow (Nat.le_refl _) (fun k hk => by cases hk)
  clear hown hgrow hz0 hz1 hz2 hi
  go_wp2_with fail
  go_loopw [10] (fun i wr => i = .int .i64 0 ∧ wr = w1) (fun _ _ => 0)
  case atStart => exact ⟨rfl, rfl⟩
  case round =>
    obtain ⟨rfl, rfl⟩ := hrel
    go_wp2_with fail
    go_ret
    exact ⟨_, rfl, hB⟩

theorem made_at (z : Array Value) (n : Nat) (cur : Array Value) (h : List.take (n * z.size) cur.toList = (madeCells z (n * z.size)).toList) {j r : Nat} (hj : j < n) (hr : r < z.size) : cur[j * z.size + r]? = z[r]? := by
  have hlt : j * z.size + r < n * z.size := by
    have : (j + 1) * z.size ≤ n * z.size := Nat.mul_le_mul_right _ hj
    rw [Nat.add_mul] at this; omega
  have h1 : (List.take (n * z.size) cur.toList)[j * z.size + r]? = (madeCells z (n * z.size)).toList[j * z.size + r]? := by rw [h]
  rw [List.getElem?_take, if_pos hlt, Array.getElem?_toList, Array.getElem?_toList] at h1
  rw [h1]
  unfold madeCells
  rw [Array.getElem?_map, Array.getElem?_range, if_pos hlt]
  simp only [Option.map_some]
  rw [Nat.mul_comm j, Nat.mul_add_mod, Nat.mod_eq_of_lt hr, getElem!_pos z r hr, Array.getElem?_eq_getElem hr]

set_option maxHeartbeats 1000000 in
theorem build_any (b off n c : Nat) (ids : Nat → Int) (w : World) (h0 : 0 < n) (hn : n ≤ 2048) (hb : b < w.heap.size) (hI : Ids w b off n ids) :
    Calls Ybad.prog 7 #[.slice (some ⟨b, off, none⟩) n c] w fun e w' => e = .returned (.slice (some ⟨w.heap.size, 0, none⟩) n n) ∧ Txs w' w.heap.size n n ids ∧ Below w.heap.size w w' := by
  obtain ⟨i0, hi, hz0, hz1, hz2⟩ := info_parts info67
  have H := hid hI
  clear hI
  go_enter Ybad.func7, Ybad.ntmps7
  go_wp2_with (at_make; refine wpList_make_full _ rfl _ _ 51 rfl w.heap.size 67 i0 _ 6 Ybad.underlying51 hi hz0 hz1 _ _ _ _ n rfl rfl rfl rfl (by rw [hz2]; omega) (by unfold maxLen; omega) (by simp) ?_)
  intro w1 hown hgrow
  have hB : Below w.heap.size w w1 := (Below.refl _ _).grown hgrow (Nat.le_refl _) (fun k hk => by cases hk)
  have hT : Txs w1 w.heap.size n 0 ids := by
    rcases hown.2 with ⟨h, _⟩ | ⟨g', cap, cur, hv, hz, hh, hy, hx, hs, hw⟩
    · cases h
    · obtain ⟨rfl, -, rfl⟩ : w.heap.size = g' ∧ True ∧ n = cap := by cases hv; exact ⟨rfl, trivial, rfl⟩
      have hm := fun (j : Nat) (hj : j < n) (r : Nat) (hr : r < 6) => made_at #[Value.int IntKind.i64 0, Value.int IntKind.u32 0, Value.bool false, Value.slice none 0 0, Value.pointer none, Value.slice none 0 0] n cur hw hj hr
      refine ⟨cur, hh, hs, fun j hj => ⟨hm j hj 0 (by omega), ⟨_, hm j hj 1 (by omega), fun h => by omega⟩, hm j hj 2 (by omega), hm j hj 3 (by omega), hm j hj 4 (by omega), hm j hj 5 (by omega)⟩⟩
  clear hown hgrow hz0 hz1 hz2 hi
  go_wp2_with fail
  go_loopw [10] (fun i wr => ∃ k : Nat, k ≤ n ∧ i = .int .i64 k ∧ Txs wr w.heap.size n k ids ∧ Below w.heap.size w wr) (fun i _ => n - (intOf i).toNat)
  case atStart => exact ⟨0, Nat.zero_le _, rfl, hT, hB⟩
  case round =>
    clear hT hB
    obtain ⟨k, hk, rfl, hT, hB⟩ := hrel
    by_cases hlt : k < n
    · have ck : wr.cell? ⟨b, off + k, none⟩ = some (.int .u32 (ids k)) := (hB.cell (by exact hb)).trans (H.out k hlt).1
      obtain ⟨⟨t0, ⟨v, t1, _⟩, t2, t3, t4, t5⟩, fr⟩ := hT.cell hlt
      have HT := hid (hT.step hlt)
      have HB := hid ((((((hB.setCell (p := ⟨w.heap.size, k * 6, none⟩) (by exact Nat.le_refl _) (.int .i64 0)).setCell (p := ⟨w.heap.size, k * 6 + 1, none⟩) (by exact Nat.le_refl _) (.int .u32 (ids k))).setCell (p := ⟨w.heap.size, k * 6 + 2, none⟩) (by exact Nat.le_refl _) (.bool false)).setCell (p := ⟨w.heap.size, k * 6 + 3, none⟩) (by exact Nat.le_refl _) (.slice none 0 0)).setCell (p := ⟨w.heap.size, k * 6 + 4, none⟩) (by exact Nat.le_refl _) (.pointer none)).setCell (p := ⟨w.heap.size, k * 6 + 5, none⟩) (by exact Nat.le_refl _) (.slice none 0 0))
      clear hT hB
      go_wp2_with fail
      go_roundw
      case rel => exact ⟨k + 1, by omega, by go_num, HT.out, HB.out⟩
      case measure => simp [intOf]; omega
    · obtain rfl : k = n := by omega
      have HT := hid hT
      have HB := hid hB
      clear hT hB
      go_wp2_with fail
      go_ret
      exact ⟨rfl, HT.out, HB.out⟩
end Go.Proofs.YbulkcamsDoor.KP
