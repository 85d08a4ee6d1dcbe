import Derived.Test.YbulkcameCSFields
namespace Go.Proofs.Ybulkcame.CS
open Go.RowKit Ext
set_option maxRecDepth 10000
set_option linter.unusedSimpArgs false
set_option linter.unusedVariables false

/-- w1 is w but for block g. -/
structure Turn (g : Nat) (w w1 : World) : Prop where
  os : w1.os = w.os
  tape : w1.tape = w.tape
  output : w1.output = w.output
  size : w.heap.size ≤ w1.heap.size
  block : ∀ k, k < w.heap.size → k ≠ g → w1.heap[k]? = w.heap[k]?

theorem Turn.trans {g : Nat} {a b c : World} (h : Turn g a b) (k : Turn g b c) : Turn g a c :=
  ⟨k.os.trans h.os, k.tape.trans h.tape, k.output.trans h.output, Nat.le_trans h.size k.size, fun i hi hb => (k.block i (Nat.lt_of_lt_of_le hi h.size) hb).trans (h.block i hi hb)⟩
theorem Turn.of_below {g : Nat} {w w' : World} (h : Below w.heap.size w w') : Turn g w w' := ⟨h.os, h.tape, h.output, h.size, fun k hk _ => h.block k hk⟩
theorem Turn.below {g B : Nat} {a w w' : World} (h : Below B a w) (k : Turn g w w') (hB : B ≤ g) (hs : B ≤ w.heap.size) : Below B a w' :=
  h.trans ⟨k.os, k.tape, k.output, k.size, fun i hi => k.block i (by omega) (by omega)⟩
theorem Turn.cell {g : Nat} {w w' : World} (h : Turn g w w') {p : Addr} {v : Value} (hc : w.cell? p = some v) (hp : p.block ≠ g) : w'.cell? p = some v :=
  (World.cell?_of_block (w := w) (h.block _ (World.block_lt_of_cell? w p hc) hp)).trans hc

def Clear (w : World) (g N : Nat) : Prop := ∀ j, j < N → w.cell? ⟨g, j * 9 + 8, none⟩ = some (.slice none 0 0)

theorem setCells_rest (g : Nat) : ∀ (vs : List Value) (o : Nat) (w : World), (w.setCells g o vs).os = w.os ∧ (w.setCells g o vs).tape = w.tape ∧ (w.setCells g o vs).output = w.output
  | [], _, _ => ⟨rfl, rfl, rfl⟩
  | v :: vs, o, w => setCells_rest g vs (o + 1) (w.setCell ⟨g, o, none⟩ v)

theorem cleared {w : World} {g N k : Nat} (h : Fld w g N k) : Clear (w.setCells g 0 (Builtin.zeroCells zArr N).toList) g N ∧ Turn g w (w.setCells g 0 (Builtin.zeroCells zArr N).toList) := by
  obtain ⟨cur, h1, h2, _⟩ := h
  constructor
  · intro j hj
    have hlen : j * 9 + 8 < (Builtin.zeroCells zArr N).toList.length := by rw [zc_len]; omega
    have := World.cell?_setCells_in g (Builtin.zeroCells zArr N).toList 0 w (fun i hi => by
      rw [zc_len] at hi
      rw [block_cell h1, Array.getElem?_eq_getElem (by omega)]; rfl) (j * 9 + 8) hlen
    rw [Nat.zero_add] at this
    rw [this, ← List.getElem?_eq_getElem hlen, zc_at N _ (by omega)]
    rw [show (j * 9 + 8) % 9 = 8 from by omega]
    rfl
  · obtain ⟨a, b, c⟩ := setCells_rest g (Builtin.zeroCells zArr N).toList 0 w
    exact ⟨a, b, c, Nat.le_of_eq (setCells_size _ _ _ _).symm, fun k _ hk => setCells_other _ _ _ _ _ hk⟩

set_option maxHeartbeats 1000000 in
theorem release_any (cb g n N : Nat) (hn : n ≤ N) (hN : N ≤ 510) (w : World) (hc : w.cell? ⟨cb, 5, none⟩ = some (.slice (some ⟨g, 0, none⟩) n N)) (h : Fld w g N N) :
    Calls Yba.prog 6 #[.pointer (some ⟨cb, 5, none⟩)] w fun e w' => e = .returned (.tuple #[]) ∧ Clear w' g N ∧ Turn g w w' := by
  by_cases h0 : N = 0
  · subst h0
    obtain rfl : n = 0 := by omega
    have hcl : ∀ ty, (Builtin.clear_ #[22] ty #[.slice (some ⟨g, 0, none⟩) 0 0]).run Yba.prog w.drew = .ok (.tuple #[]) w.drew := fun ty => by
      simp [Builtin.clear_, run_underlying Yba.underlying22]
    go_enter Yba.func6, Yba.ntmps6
    go_wp2_with fail
    go_region
    go_end0
    exact ⟨rfl, fun j hj => by omega, ⟨rfl, rfl, rfl, Nat.le_refl _, fun _ _ _ => rfl⟩⟩
  · have hcl : ∀ ty, (Builtin.clear_ #[22] ty #[.slice (some ⟨g, 0, none⟩) N N]).run Yba.prog w.drew = .ok (.tuple #[]) (w.drew.setCells g 0 (Builtin.zeroCells zArr N).toList) := fun ty =>
      run_clear9 w.drew ty g N N (by omega) (k := N) h
    have hcd := cleared (w := w.drew) (g := g) (N := N) (k := N) h
    have H1 := hid hcd.1
    have H2 := hid (show Turn g w _ from ⟨hcd.2.os, hcd.2.tape, hcd.2.output, hcd.2.size, hcd.2.block⟩)
    clear hcd
    go_enter Yba.func6, Yba.ntmps6
    go_wp2_with fail
    go_region
    go_end0
    exact ⟨rfl, H1.out, H2.out⟩

theorem Fld.kept {w w' : World} {g N k : Nat} (h : Fld w g N k) (hb : Below w.heap.size w w') : Fld w' g N k := by
  obtain ⟨cur, h1, h2, h3⟩ := h
  refine ⟨cur, (hb.block _ (block_lt h1)).trans h1, h2, fun j hj => ?_⟩
  obtain ⟨d, a, b, c⟩ := h3 j hj
  exact ⟨d, a, b, (hb.block _ (block_lt c)).trans c⟩

set_option maxHeartbeats 1000000 in
theorem behindDone_any (cb g n N : Nat) (hn : n ≤ N) (hN : N ≤ 510) (r0 r1 r2 r4 r5 : Value) (da : Option Addr) (dl dc : Nat) (hd : dl ≤ 1048576) (w : World) (hc : w.cell? ⟨cb, 5, none⟩ = some (.slice (some ⟨g, 0, none⟩) n N)) (h : Fld w g N N) :
    Calls Yba.prog 5 #[.pointer (some ⟨cb, 0, none⟩), .agg #[r0, r1, r2, .slice da dl dc, r4, r5]] w fun e w' => e = .returned (.tuple #[]) ∧ Clear w' g N ∧ Turn g w w' := by
  have hg : g < w.heap.size := by obtain ⟨_, h1, _⟩ := h; exact block_lt h1
  have hcb : cb < w.heap.size := World.block_lt_of_cell? w _ hc
  have H := hid h
  clear h
  go_enter Yba.func5, Yba.ntmps5
  go_wp2_with fail
  obtain ⟨wa, hwa⟩ : ∃ wa, wa = w.alloc (.cells #[r0, r1, r2, .slice da dl dc, r4, r5] 37) := ⟨_, rfl⟩
  rw [← hwa]
  have ba : Below w.heap.size w wa := by rw [hwa]; exact (Below.refl _ _).alloc (Nat.le_refl _) _
  have d3 : wa.cell? ⟨w.heap.size, 3, none⟩ = some (.slice da dl dc) := by rw [hwa]; exact World.cell?_alloc_new _ _ _ 3
  have Ha := hid (H.out.kept ba)
  have ca := (ba.cell (p := ⟨cb, 5, none⟩) hcb).trans hc
  have Ta := hid (Turn.of_below (g := g) ba)
  clear hwa ba
  refine (release_any cb g n N hn hN wa ca Ha.out).mono ?_
  rintro e w1 ⟨rfl, hcl, ht⟩
  have d3' := ht.cell d3 (by show w.heap.size ≠ g; omega)
  have Hc := hid hcl
  have Ht := hid (Ta.out.trans ht)
  clear hcl ht d3 ca
  go_wp2_with fail
  go_end0
  exact ⟨rfl, Hc.out, Ht.out⟩
end Go.Proofs.Ybulkcame.CS
