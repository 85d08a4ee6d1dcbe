import Derived.Test.YbulkcajmBMTime
import Derived.Test.YbulkcajmBMBig
import Derived.Deep.RegionHeld3
import Derived.Deep.DrawnRows
namespace Go.Proofs.Ybulkcajm.BM
open Go.RowKit
set_option maxRecDepth 10000
set_option linter.unusedSimpArgs false
set_option linter.unusedVariables false

theorem info25 : (Yba.prog.info? 25).map (fun i => (i.zero, i.size, i.bytes)) = some (some (.pointer none), 1, 8) := by kernel_rfl

/-- The cells of a manifest. -/
def manCells (r : Nat) (t x : Int) (v : Value) : Array Value :=
  #[.pointer (some ⟨r, 0, none⟩), .int .u64 (t % 1000000000), .int .i64 (t / 1000000000), .pointer none, .int .u64 (x % 1000000000), .int .i64 (x / 1000000000), .pointer none, .slice none 0 0, v, .slice none 0 0]

/-- Block p is a manifest. -/
def Man (w : World) (p : Nat) (t x a m : Int) : Prop :=
  ∃ r v, w.heap[p]? = some (.cells (manCells r t x v) 42 (0, 0)) ∧ Big w r m ∧ Bytes w v (akiS a)

theorem Bytes.kept {w w' : World} {v : Value} {s : ByteArray} (h : Bytes w v s) (hb : Keeps w w') : Bytes w' v s := by
  rcases h with h | h | ⟨g, c, h1, h2, h3⟩
  · exact .inl h
  · exact .inr (.inl h)
  · exact .inr (.inr ⟨g, c, h1, h2, hb _ _ _ _ (by decide) h3⟩)

theorem Man.kept {w w' : World} {p : Nat} {t x a m : Int} (h : Man w p t x a m) (hb : Keeps w w') : Man w' p t x a m := by
  obtain ⟨r, v, h0, h1, h2⟩ := h
  exact ⟨r, v, hb _ _ _ _ (by decide) h0, h1.kept hb, h2.kept hb⟩

/-- What the arguments' entries hold. -/
def Ents (w : World) (b off n : Nat) (th nx ak nm : Nat → Int) : Prop :=
  ∀ j, j < n → w.cell? ⟨b, off + j * 4, none⟩ = some (.int .i64 (th j)) ∧ w.cell? ⟨b, off + j * 4 + 1, none⟩ = some (.int .i64 (nx j)) ∧
    w.cell? ⟨b, off + j * 4 + 2, none⟩ = some (.int .u8 (ak j)) ∧ w.cell? ⟨b, off + j * 4 + 3, none⟩ = some (.int .u64 (nm j))

def Rng (n : Nat) (th nx ak nm : Nat → Int) : Prop :=
  ∀ j, j < n → (-9223372036854775808 ≤ th j ∧ th j ≤ 9223372036854775807) ∧ (-9223372036854775808 ≤ nx j ∧ nx j ≤ 9223372036854775807) ∧ (0 ≤ ak j ∧ ak j ≤ 255) ∧ (0 ≤ nm j ∧ nm j < 18446744073709551616)

/-- Block L is a row of n pointers, the first k of which lead to the manifests of the first k entries. -/
def Mans (w : World) (L n k : Nat) (mp : Nat → Nat) (th nx ak nm : Nat → Int) : Prop :=
  (∃ cur : Array Value, w.heap[L]? = some (.cells cur 25 (0, 0)) ∧ cur.size = n ∧ ∀ j, j < k → cur[j]? = some (.pointer (some ⟨mp j, 0, none⟩))) ∧
  ∀ j, j < k → Man w (mp j) (th j) (nx j) (ak j) (nm j)

def Zero (w : World) (z : Nat) : Prop := w.cell? ⟨z, 0, none⟩ = some (.int .u64 0) ∧ w.cell? ⟨z, 1, none⟩ = some (.int .i64 0) ∧ w.cell? ⟨z, 2, none⟩ = some (.pointer none)

theorem Mans.old {w : World} {L n k : Nat} {mp : Nat → Nat} {th nx ak nm : Nat → Int} (h : Mans w L n k mp th nx ak nm) (i : Nat) (hi : i < n) : (∃ v, w.cell? ⟨L, i, none⟩ = some v) ∧ w.frozen? ⟨L, i, none⟩ = false := by
  obtain ⟨⟨cur, hh, hs, _⟩, _⟩ := h
  exact ⟨⟨cur[i], by simp [World.cell?, hh, hs, hi]⟩, by simp [World.frozen?, hh]⟩

theorem keepCell {W w1 : World} {B : Nat} (hb : Below B W w1) {p : Addr} {v : Value} (h : W.cell? p = some v) (hp : p.block < B) : w1.cell? p = some v := (hb.cell hp).trans h

/-- What the region of a round reads. -/
def Reads (w : World) (eb z : Nat) (t x a m : Int) : Prop :=
  w.cell? ⟨eb, 0, none⟩ = some (.int .i64 t) ∧ w.cell? ⟨eb, 1, none⟩ = some (.int .i64 x) ∧ w.cell? ⟨eb, 2, none⟩ = some (.int .u8 a) ∧ w.cell? ⟨eb, 3, none⟩ = some (.int .u64 m) ∧
  w.cell? ⟨z, 0, none⟩ = some (.int .u64 0) ∧ w.cell? ⟨z, 1, none⟩ = some (.int .i64 0) ∧ w.cell? ⟨z, 2, none⟩ = some (.pointer none)

theorem Reads.kept {W w1 : World} {B eb z : Nat} {t x a m : Int} (h : Reads W eb z t x a m) (hb : Below B W w1) (h1 : eb < B) (h2 : z < B) : Reads w1 eb z t x a m := by
  obtain ⟨a0, a1, a2, a3, a4, a5, a6⟩ := h
  exact ⟨keepCell hb a0 h1, keepCell hb a1 h1, keepCell hb a2 h1, keepCell hb a3 h1, keepCell hb a4 h2, keepCell hb a5 h2, keepCell hb a6 h2⟩

theorem add_zero' (d : Int) (h0 : -9223372036854775808 ≤ d) (h1 : d ≤ 9223372036854775807) (w : World) :
    Calls Yba.prog 8 #[.agg #[.int .u64 0, .int .i64 0, .pointer none], .int .i64 d] w fun e w' => e = .returned (.agg #[.int .u64 (d % 1000000000), .int .i64 (d / 1000000000), .pointer none]) ∧ Below w.heap.size w w' := add_zero d h0 h1 w

theorem aki_any' (a : Int) (h0 : 0 ≤ a) (h1 : a ≤ 255) (w : World) :
    Calls Yba.prog 14 #[.int .u8 a] w fun e w' => ∃ ao l, e = .returned (.slice ao l l) ∧ Bytes w' (.slice ao l l) (akiS a) ∧ Below w.heap.size w w' := by
  refine (aki_any a h0 h1 w).mono ?_
  rintro e w' ⟨v, rfl, hv, hb⟩
  rcases hv with ⟨rfl, h⟩ | ⟨g, rfl, h⟩ | ⟨g, c, rfl, h, h'⟩
  · exact ⟨_, _, rfl, .inl ⟨rfl, h⟩, hb⟩
  · exact ⟨_, _, rfl, .inr (.inl ⟨g, rfl, h⟩), hb⟩
  · exact ⟨_, _, rfl, .inr (.inr ⟨g, c, rfl, h, h'⟩), hb⟩

theorem size_two {we w2 : World} {o : Obj} (hb : Below we.heap.size (we.alloc o).drew w2) : we.heap.size < w2.heap.size := by
  have := hb.size
  simp at this
  omega

theorem chain5 {we w2 w3 w4 w5 : World} {o : Obj} (hb2 : Below we.heap.size (we.alloc o).drew w2) (hb3 : Below w2.heap.size w2 w3) (hb4 : Below w3.heap.size w3 w4) (hb5 : Below w4.heap.size w4 w5)
    (s2 : we.heap.size < w2.heap.size) (s3 : w2.heap.size ≤ w3.heap.size) (s4 : w3.heap.size ≤ w4.heap.size) : Below we.heap.size we w5 :=
  ((((Below.refl we.heap.size we).alloc (Nat.le_refl _) o).drew.trans hb2).trans (hb3.mono (by omega))).trans ((hb4.mono (by omega)).trans (hb5.mono (by omega)))

theorem old5 {w wr we w5 w2 w3 w4 : World} {n k : Nat} {mp : Nat → Nat} {th nx ak nm : Nat → Int} (hM : Mans wr (w.heap.size + 1) n k mp th nx ak nm) (hlt : k < n) (hW : Below wr.heap.size wr we) (hH : Below we.heap.size we w5)
    (LbH : w.heap.size + 1 < wr.heap.size) (ebH : wr.heap.size < we.heap.size) (s2 : we.heap.size < w2.heap.size) (s3 : w2.heap.size ≤ w3.heap.size) (s4 : w3.heap.size ≤ w4.heap.size) (s5 : w4.heap.size ≤ w5.heap.size) :
    ∃ vo, (∀ o, (w5.alloc o).cell? ⟨w.heap.size + 1, k, none⟩ = some vo) ∧ ∀ o, (w5.alloc o).frozen? ⟨w.heap.size + 1, k, none⟩ = false := by
  obtain ⟨⟨vo, o0⟩, o1⟩ := hM.old k hlt
  refine ⟨vo, fun o => ?_, fun o => ?_⟩
  · rw [World.cell?_alloc_lt _ _ _ (by show w.heap.size + 1 < _; omega), hH.cell (by show w.heap.size + 1 < _; omega), hW.cell (by show w.heap.size + 1 < _; omega), o0]
  · rw [World.frozen?_alloc_old _ _ _ (by show w.heap.size + 1 ≠ _; omega), hH.frozen (by show w.heap.size + 1 < _; omega), hW.frozen (by show w.heap.size + 1 < _; omega), o1]

theorem mans_step {wr w5 : World} {L n k r : Nat} {v : Value} {mp : Nat → Nat} {th nx ak nm : Nat → Int} (hM : Mans wr L n k mp th nx ak nm) (hlt : k < n) (hb : Below wr.heap.size wr w5) (hbig : Big w5 r (nm k)) (hby : Bytes w5 v (akiS (ak k))) :
    Mans ((w5.alloc (.cells (manCells r (th k) (nx k) v) 42)).setCell ⟨L, k, none⟩ (.pointer (some ⟨w5.heap.size, 0, none⟩))) L n (k + 1) (fun j => if j = k then w5.heap.size else mp j) th nx ak nm := by
  obtain ⟨⟨cur, hh, hs, hc⟩, hm⟩ := hM
  have hL := block_lt hh
  have hh5 : w5.heap[L]? = some (.cells cur 25 (0, 0)) := (hb.block L hL).trans hh
  have hh6 : (w5.alloc (.cells (manCells r (th k) (nx k) v) 42)).heap[L]? = some (.cells cur 25 (0, 0)) := (Below.heap_alloc _ _ _ (block_lt hh5)).trans hh5
  have k5 : Keeps w5 ((w5.alloc (.cells (manCells r (th k) (nx k) v) 42)).setCell ⟨L, k, none⟩ (.pointer (some ⟨w5.heap.size, 0, none⟩))) :=
    (Keeps.of_below ((Below.refl _ _).alloc (Nat.le_refl _) _)).trans (Keeps.of_setCell hh6 _ _)
  have kr := (Keeps.of_below hb).trans k5
  refine ⟨⟨cur.setIfInBounds k _, block_set hh6 k _, by simp [hs], fun j hj => ?_⟩, fun j hj => ?_⟩
  · by_cases e : j = k
    · subst e; simp [hs, hlt]
    · rw [Array.getElem?_setIfInBounds, if_neg (fun h => e h.symm)]; dsimp only; rw [if_neg e]; exact hc j (by omega)
  · by_cases e : j = k
    · subst e
      dsimp only
      rw [if_pos rfl]
      refine ⟨r, v, Keeps.of_setCell hh6 _ _ _ _ _ _ (by decide) (heap_alloc_new w5 _), hbig.kept k5, hby.kept k5⟩
    · dsimp only; rw [if_neg e]; exact (hm j (by omega)).kept kr

attribute [local go_sem ↓] Go.wp_at_zero Go.wp_at_succ

set_option maxHeartbeats 1000000 in
theorem build_pos (b off n c : Nat) (th nx ak nm : Nat → Int) (w : World) (hn : n ≤ 1024) (hb : b < w.heap.size) (he : Ents w b off n th nx ak nm) (hr : Rng n th nx ak nm) :
    Calls Yba.prog 6 #[.slice (some ⟨b, off, none⟩) n c] w fun e w' => ∃ mp, e = .returned (.slice (some ⟨w.heap.size + 1, 0, none⟩) n n) ∧ Mans w' (w.heap.size + 1) n n mp th nx ak nm ∧ Below w.heap.size w w' := by
  obtain ⟨i0, hi, hz0, hz1, hz2⟩ := info_parts info25
  have HE : Hid (Ents w b off n th nx ak nm) := he
  have HR : Hid (Rng n th nx ak nm) := hr
  clear he hr
  go_enter Yba.func6, Yba.ntmps6
  go_wp2_with (at_make; refine wpList_make_full _ rfl _ _ 23 rfl (w.heap.size + 1) 25 i0 _ 1 Yba.underlying23 hi hz0 hz1 _ _ _ _ n rfl rfl rfl rfl (by rw [hz2]; omega) (by unfold maxLen; omega) (by simp) ?_)
  intro w1 hown hgrow
  have hz : w1.cell? ⟨w.heap.size, 0, none⟩ = some (.int .u64 0) ∧ w1.cell? ⟨w.heap.size, 1, none⟩ = some (.int .i64 0) ∧ w1.cell? ⟨w.heap.size, 2, none⟩ = some (.pointer none) := by
    have : ∀ i, w1.cell? ⟨w.heap.size, i, none⟩ = (w.alloc (.cells #[.int .u64 0, .int .i64 0, .pointer none] 30)).cell? ⟨w.heap.size, i, none⟩ := fun i => World.cell?_of_block (hgrow.block _ (by simp) (by simp))
    refine ⟨?_, ?_, ?_⟩ <;> rw [this] <;> simp [go_sem]
  have hM : ∃ mp, Mans w1 (w.heap.size + 1) n 0 mp th nx ak nm := by
    refine ⟨fun _ => 0, ?_, fun j hj => by omega⟩
    rcases hown.2 with ⟨h, _⟩ | ⟨g', cap, cur, hv, _, hh, _, _, hs, _⟩
    · cases h
    · cases hv
      exact ⟨cur, hh, by omega, fun j hj => by omega⟩
  have hB : Below w.heap.size w w1 := ((Below.refl _ _).alloc (Nat.le_refl _) _).grown hgrow (by simp) (fun k hk => by cases hk)
  have hS : w.heap.size + 1 < w1.heap.size := by obtain ⟨mp, ⟨cur, hh, _⟩, _⟩ := hM; exact block_lt hh
  have hZ : Zero w1 w.heap.size := hz
  clear hown hgrow hz0 hz1 hz2 hi hz
  go_wp2_with fail
  go_loopw [5] (fun i wr => ∃ k : Nat, k ≤ n ∧ i = .int .i64 k ∧ (∃ mp, Mans wr (w.heap.size + 1) n k mp th nx ak nm) ∧ Below w.heap.size w wr ∧ w.heap.size + 1 < wr.heap.size ∧ Zero wr w.heap.size) (fun i _ => n - (intOf i).toNat)
  case atStart => exact ⟨0, Nat.zero_le _, rfl, hM, hB, hS, hZ⟩
  case round =>
    clear hM hB hS hZ
    obtain ⟨k, hk, rfl, ⟨mp, hM⟩, hB, hS, hZ⟩ := hrel
    by_cases hlt : k < n
    · obtain ⟨e0, e1, e2, e3⟩ := HE.out k hlt
      obtain ⟨⟨r0, r0'⟩, ⟨r1, r1'⟩, ⟨r2, r2'⟩, ⟨r3, r3'⟩⟩ := HR.out k hlt
      have c0 : wr.cell? ⟨b, off + k * 4, none⟩ = some (.int .i64 (th k)) := (hB.cell (by exact hb)).trans e0
      have c1 : wr.cell? ⟨b, off + k * 4 + 1, none⟩ = some (.int .i64 (nx k)) := (hB.cell (by exact hb)).trans e1
      have c2 : wr.cell? ⟨b, off + k * 4 + 2, none⟩ = some (.int .u8 (ak k)) := (hB.cell (by exact hb)).trans e2
      have c3 : wr.cell? ⟨b, off + k * 4 + 3, none⟩ = some (.int .u64 (nm k)) := (hB.cell (by exact hb)).trans e3
      clear e0 e1 e2 e3
      go_wp2_with fail
      obtain ⟨we, hwe⟩ : ∃ we, we = wr.alloc (.cells #[.int .i64 (th k), .int .i64 (nx k), .int .u8 (ak k), .int .u64 (nm k)] 35) := ⟨_, rfl⟩
      have hW : Below wr.heap.size wr we := by rw [hwe]; exact (Below.refl _ _).alloc (Nat.le_refl _) _
      have hWs : we.heap.size = wr.heap.size + 1 := by rw [hwe]; simp
      have hRd : Reads we wr.heap.size w.heap.size (th k) (nx k) (ak k) (nm k) := by
        refine ⟨?_, ?_, ?_, ?_, keepCell hW hZ.1 (by show w.heap.size < _; omega), keepCell hW hZ.2.1 (by show w.heap.size < _; omega), keepCell hW hZ.2.2 (by show w.heap.size < _; omega)⟩ <;> (rw [hwe]; simp [go_sem])
      rw [← hwe]
      clear hwe c0 c1 c2 c3
      obtain ⟨q0, q1, q2, q3, q4, q5, q6⟩ := id hRd
      have HRd : Hid (Reads we wr.heap.size w.heap.size (th k) (nx k) (ak k) (nm k)) := hRd
      have HWs : Hid (we.heap.size = wr.heap.size + 1) := hWs
      have i0' : (0 : Int) ≤ (k : Int) := by omega
      have i1' : (k : Int) < (n : Int) := by omega
      have ebH : wr.heap.size < we.heap.size := by omega
      have zbH : w.heap.size < we.heap.size := by omega
      have LbH : w.heap.size + 1 < wr.heap.size := hS
      have ne1 : ¬ wr.heap.size = w.heap.size + 1 := by omega
      have ne2 : ¬ w.heap.size + 1 = wr.heap.size := by omega
      have HM : Hid (Mans wr (w.heap.size + 1) n k mp th nx ak nm) := hM
      have HB : Hid (Below w.heap.size w wr) := hB
      have HW : Hid (Below wr.heap.size wr we) := hW
      clear hRd hWs hM hB hS hZ hW
      go_region_held3 (fun w' => w'.cell? ⟨wr.heap.size, 0, none⟩ = some (.int .i64 (th k)) ∧ w'.cell? ⟨wr.heap.size, 1, none⟩ = some (.int .i64 (nx k)) ∧ w'.cell? ⟨wr.heap.size, 2, none⟩ = some (.int .u8 (ak k)) ∧ w'.cell? ⟨wr.heap.size, 3, none⟩ = some (.int .u64 (nm k)) ∧
  w'.cell? ⟨w.heap.size, 0, none⟩ = some (.int .u64 0) ∧ w'.cell? ⟨w.heap.size, 1, none⟩ = some (.int .i64 0) ∧ w'.cell? ⟨w.heap.size, 2, none⟩ = some (.pointer none)) (go_keep)
        (first
          | (go_at_call 13; refine (setUint_any we.heap.size (nm k) r3 r3' _ ?_).mono ?_; (exact heap_alloc_new we _); rintro e w2 ⟨rfl, hbig2, hb2⟩; have HR2 : Hid (Reads w2 wr.heap.size w.heap.size (th k) (nx k) (ak k) (nm k)) := (HRd.out.kept ((Below.refl we.heap.size we).alloc (Nat.le_refl _) (.cells #[.bool false, .slice none 0 0] 65)) ebH zbH).kept (W := (we.alloc (.cells #[.bool false, .slice none 0 0] 65)).drew) hb2 ebH zbH; have s2 : we.heap.size < w2.heap.size := size_two hb2; obtain ⟨q20, q21, q22, q23, q24, q25, q26⟩ := HR2.out)
          | (go_at_call_of 8 (th k); refine (add_zero' (th k) r0 r0' _).mono ?_; rintro e w3 ⟨rfl, hb3⟩; have HR3 : Hid (Reads w3 wr.heap.size w.heap.size (th k) (nx k) (ak k) (nm k)) := HR2.out.kept hb3 (Nat.lt_trans ebH s2) (Nat.lt_trans zbH s2); have s3 := hb3.size; obtain ⟨q30, q31, q32, q33, q34, q35, q36⟩ := HR3.out)
          | (go_at_call_of 8 (nx k); refine (add_zero' (nx k) r1 r1' _).mono ?_; rintro e w4 ⟨rfl, hb4⟩; have HR4 : Hid (Reads w4 wr.heap.size w.heap.size (th k) (nx k) (ak k) (nm k)) := HR3.out.kept hb4 (by omega) (by omega); have s4 := hb4.size; obtain ⟨q40, q41, q42, q43, q44, q45, q46⟩ := HR4.out)
          | (go_at_call 14; refine (aki_any' (ak k) r2 r2' _).mono ?_; rintro e w5 ⟨ao, l, rfl, hby5, hb5⟩; have HR5 : Hid (Reads w5 wr.heap.size w.heap.size (th k) (nx k) (ak k) (nm k)) := HR4.out.kept hb5 (by omega) (by omega); have s5 := hb5.size; have HH : Hid (Below we.heap.size we w5) := chain5 hb2 hb3 hb4 hb5 s2 s3 s4; obtain ⟨vo, kv, kf⟩ := old5 HM.out hlt HW.out HH.out LbH ebH s2 s3 s4 s5; obtain ⟨q50, q51, q52, q53, q54, q55, q56⟩ := HR5.out))
      have hM' := mans_step HM.out hlt (HW.out.trans (HH.out.mono (by omega))) (hbig2.kept ((Keeps.of_below hb3).trans ((Keeps.of_below hb4).trans (Keeps.of_below hb5)))) hby5
      have hB' : Below w.heap.size w ((w5.alloc (.cells (manCells we.heap.size (th k) (nx k) (.slice ao l l)) 42)).setCell ⟨w.heap.size + 1, k, none⟩ (.pointer (some ⟨w5.heap.size, 0, none⟩))) :=
        ((HB.out.trans ((HW.out.mono (by omega)).trans (HH.out.mono (by omega)))).alloc (by omega) _).setCell (by exact Nat.le_succ _) _
      have hS' : w.heap.size + 1 < ((w5.alloc (.cells (manCells we.heap.size (th k) (nx k) (.slice ao l l)) 42)).setCell ⟨w.heap.size + 1, k, none⟩ (.pointer (some ⟨w5.heap.size, 0, none⟩))).heap.size := by simp; omega
      have hZ' : Zero ((w5.alloc (.cells (manCells we.heap.size (th k) (nx k) (.slice ao l l)) 42)).setCell ⟨w.heap.size + 1, k, none⟩ (.pointer (some ⟨w5.heap.size, 0, none⟩))) w.heap.size := by
        have e : ∀ i, ((w5.alloc (.cells (manCells we.heap.size (th k) (nx k) (.slice ao l l)) 42)).setCell ⟨w.heap.size + 1, k, none⟩ (.pointer (some ⟨w5.heap.size, 0, none⟩))).cell? ⟨w.heap.size, i, none⟩ = w5.cell? ⟨w.heap.size, i, none⟩ := fun i => by
          rw [World.cell?_of_block (w := w5.alloc (.cells (manCells we.heap.size (th k) (nx k) (.slice ao l l)) 42)) (Below.heap_setCell _ _ _ _ (by show w.heap.size ≠ w.heap.size + 1; omega)), World.cell?_alloc_lt _ _ _ (by show w.heap.size < _; omega)]
        exact ⟨(e 0).trans q54, (e 1).trans q55, (e 2).trans q56⟩
      have HM' : Hid _ := hM'
      have HB' : Hid _ := hB'
      have HS' : Hid _ := hS'
      have HZ' : Hid _ := hZ'
      clear hM' hB' hS' hZ' hb2 hb3 hb4 hb5 hbig2 hby5 HR2 HR3 HR4 HR5 HRd HM HB HW HH kv kf
      go_wp2_with fail
      go_roundw
      case rel => exact ⟨k + 1, by omega, by go_num, ⟨_, HM'.out⟩, HB'.out, HS'.out, HZ'.out⟩
      case measure => simp [intOf]; omega
    · obtain rfl : k = n := by omega
      go_wp2_with fail
      go_ret
      exact ⟨mp, rfl, hM, hB⟩

set_option maxHeartbeats 400000 in
theorem build_zero (a : Option Addr) (c : Nat) (th nx ak nm : Nat → Int) (w : World) :
    Calls Yba.prog 6 #[.slice a 0 c] w fun e w' => ∃ mp, e = .returned (.slice (some ⟨w.heap.size + 1, 0, none⟩) 0 0) ∧ Mans w' (w.heap.size + 1) 0 0 mp th nx ak nm ∧ Below w.heap.size w w' := by
  obtain ⟨i0, hi, hz0, hz1, hz2⟩ := info_parts info25
  go_enter Yba.func6, Yba.ntmps6
  go_wp2_with (at_make; refine wpList_make_full _ rfl _ _ 23 rfl (w.heap.size + 1) 25 i0 _ 1 Yba.underlying23 hi hz0 hz1 _ _ _ _ 0 rfl rfl rfl rfl (by rw [hz2]; omega) (by unfold maxLen; omega) (by simp) ?_)
  intro w1 hown hgrow
  have hM : ∃ mp, Mans w1 (w.heap.size + 1) 0 0 mp th nx ak nm := by
    refine ⟨fun _ => 0, ?_, fun j hj => by omega⟩
    rcases hown.2 with ⟨h, _⟩ | ⟨g', cap, cur, hv, _, hh, _, _, hs, _⟩
    · cases h
    · cases hv
      exact ⟨cur, hh, by omega, fun j hj => by omega⟩
  have hB : Below w.heap.size w w1 := ((Below.refl _ _).alloc (Nat.le_refl _) _).grown hgrow (by simp) (fun k hk => by cases hk)
  clear hown hgrow hz0 hz1 hz2 hi
  go_wp2_with fail
  refine wp_loop_rounds 1 ?_
  rw [rounds_succ]
  go_wp2_with fail
  go_ret
  obtain ⟨mp, hM⟩ := hM
  exact ⟨mp, rfl, hM, hB⟩
end Go.Proofs.Ybulkcajm.BM
