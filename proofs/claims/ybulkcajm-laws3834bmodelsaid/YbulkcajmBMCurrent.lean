import Derived.Test.YbulkcajmBMPlain
import Derived.Test.YbulkcajmExt
namespace Go.Proofs.Ybulkcajm.BM
open Go.RowKit Ext
open MapFn (MapIs upd upd_same upd_other)
set_option maxRecDepth 10000
set_option linter.unusedSimpArgs false
set_option linter.unusedVariables false

theorem zero37 (w : World) : (zeroValue 37).run Yba.prog w = .ok (.pointer none) w := by kernel_rfl
theorem enc9 : MapFn.KeyEnc Yba.prog 9 Value.string (fun s : ByteArray => s.size ≤ maxLen) := MapFn.string_enc Yba.underlying9
theorem akiS_ok (a : Int) : (akiS a).size ≤ maxLen := by
  unfold akiS maxLen
  split
  · decide
  · split <;> decide

def nowCells (now : Int) : Array Value := #[.int .u64 (now % 1000000000), .int .i64 (now / 1000000000), .pointer none]

def Rel1 (w wr : World) (k : Nat) (th nx ak nm : Nat → Int) (now : Int) (mp : Nat → Nat) (v : Value) : Prop :=
  wr.ownsRow (w.heap.size + 2) 25 1 v (ins th nx now k).length ((ins th nx now k).map (ptr mp)) ∧
  (∃ f c, MapIs Value.string (fun s : ByteArray => s.size ≤ maxLen) wr (w.heap.size + 1) f c ∧ Hi th nx ak nm now w k f) ∧ Below w.heap.size w wr ∧
  wr.heap[w.heap.size]? = some (.cells (nowCells now) 30 (0, 0)) ∧ w.heap.size + 2 ≤ wr.heap.size

theorem Rel1.skip {w wr w' : World} {k : Nat} {th nx ak nm : Nat → Int} {now : Int} {mp : Nat → Nat} {v : Value} (h : Rel1 w wr k th nx ak nm now mp v) (hb : Below wr.heap.size wr w') (hk : inB th nx now k = false) : Rel1 w w' (k + 1) th nx ak nm now mp v := by
  obtain ⟨h1, ⟨f, c, h2, h2'⟩, h3, h4, h5⟩ := h
  have hg : wr.grownBy w' none := ⟨hb.os, hb.tape, hb.output, hb.size, fun k hk _ => hb.block k hk⟩
  have e : ins th nx now (k + 1) = ins th nx now k := by rw [ins_succ, hk]; simp
  refine ⟨?_, ⟨f, c, h2.kept (hb.block _ (by omega)), h2'.skip hk⟩, h3.trans (hb.mono (by omega)), (hb.block _ (by omega)).trans h4, Nat.le_trans h5 hb.size⟩
  rw [e]
  exact h1.kept hg (by cases hv : v.ownBlock <;> simp)

theorem Rel1.kept {w wr w' : World} {k : Nat} {th nx ak nm : Nat → Int} {now : Int} {mp : Nat → Nat} {v : Value} (h : Rel1 w wr k th nx ak nm now mp v) (hb : Below wr.heap.size wr w') : Rel1 w w' k th nx ak nm now mp v := by
  obtain ⟨h1, ⟨f, c, h2, h2'⟩, h3, h4, h5⟩ := h
  have hg : wr.grownBy w' none := ⟨hb.os, hb.tape, hb.output, hb.size, fun k hk _ => hb.block k hk⟩
  exact ⟨h1.kept hg (by cases hv : v.ownBlock <;> simp), ⟨f, c, h2.kept (hb.block _ (by omega)), h2'⟩, h3.trans (hb.mono (by omega)), (hb.block _ (by omega)).trans h4, Nat.le_trans h5 hb.size⟩

theorem grown_cell {w w' : World} {v : Value} {base : Nat} {o : Obj} {e : TypeId} {sz m : Nat} {xs : List Value} (hown : w.ownsRow base e sz v m xs) (hg : (w.alloc o).grownBy w' v.ownBlock) {b : Nat} (hb : b < base) (hw : b < w.heap.size) : w'.heap[b]? = w.heap[b]? := by
  rw [hg.block b (by simp; omega) (fun h => by have := (hown.lt b h.symm).1; omega)]
  exact Below.heap_alloc _ _ _ hw

theorem own_setBlock {w : World} {base : Nat} {e : TypeId} {sz m b : Nat} {v : Value} {xs : List Value} (h : w.ownsRow base e sz v m xs) (hb : b < base) (o : Obj) : (ChangeMaps.setBlock w b o).ownsRow base e sz v m xs := by
  obtain ⟨h1, h2⟩ := h
  refine ⟨h1, ?_⟩
  rcases h2 with h2 | ⟨g, cap, cur, hv, hg, hh, r⟩
  · exact .inl h2
  · exact .inr ⟨g, cap, cur, hv, hg, by rw [MapFn.setBlock_other _ _ _ (by omega)]; exact hh, r⟩

/-- A round that keeps the map as it is. -/
theorem Rel1.stay {w w2 w3 : World} {o : Obj} {k c : Nat} {th nx ak nm : Nat → Int} {now : Int} {mp : Nat → Nat} {v v' : Value} {f : ByteArray → Option Value} {m : Nat} {xs : List Value}
    (hown : w2.ownsRow (w.heap.size + 2) 25 1 v m xs) (hgrow : (w2.alloc o).grownBy w3 v.ownBlock)
    (hown' : w3.ownsRow (w.heap.size + 2) 25 1 v' ((ins th nx now k).length + 1) ((ins th nx now k).map (ptr mp) ++ [ptr mp k]))
    (hmap : MapIs Value.string (fun s : ByteArray => s.size ≤ maxLen) w2 (w.heap.size + 1) f c) (hhi : Hi th nx ak nm now w (k + 1) f) (hbel : Below w.heap.size w w2)
    (hnow : w2.heap[w.heap.size]? = some (.cells (nowCells now) 30 (0, 0))) (hsz : w.heap.size + 2 ≤ w2.heap.size) (hin : inB th nx now k = true) (q : Nat) : Rel1 w (w3.drewN q) (k + 1) th nx ak nm now mp v' := by
  have e : ins th nx now (k + 1) = ins th nx now k ++ [k] := by rw [ins_succ, hin]; simp
  have hb3 : Below w.heap.size w w3 := (hbel.alloc hbel.size _).grown hgrow (by simp; omega) (fun j hj => by have := (hown.lt j hj).1; omega)
  refine ⟨?_, ⟨f, c, hmap.kept (grown_cell hown hgrow (by omega) (by omega)), hhi⟩, hb3.trans ⟨rfl, rfl, rfl, Nat.le_refl _, fun _ _ => rfl⟩, (grown_cell hown hgrow (by omega) (by omega)).trans hnow, ?_⟩
  · rw [e]
    simp only [List.length_append, List.map_append, List.length_cons, List.length_nil, List.map_cons, List.map_nil]
    exact hown'
  · have := hgrow.size; simp at this; show _ ≤ w3.heap.size; omega

theorem Rel1.put {w w2 w3 : World} {o ob : Obj} {k c' : Nat} {th nx ak nm : Nat → Int} {now : Int} {mp : Nat → Nat} {v v' : Value} {f' : ByteArray → Option Value} {m : Nat} {xs : List Value}
    (hown : w2.ownsRow (w.heap.size + 2) 25 1 v m xs) (hgrow : (w2.alloc o).grownBy w3 v.ownBlock)
    (hown' : w3.ownsRow (w.heap.size + 2) 25 1 v' ((ins th nx now k).length + 1) ((ins th nx now k).map (ptr mp) ++ [ptr mp k]))
    (hmap : MapIs Value.string (fun s : ByteArray => s.size ≤ maxLen) (ChangeMaps.setBlock w3 (w.heap.size + 1) ob) (w.heap.size + 1) f' c') (hhi : Hi th nx ak nm now w (k + 1) f') (hbel : Below w.heap.size w w2)
    (hnow : w2.heap[w.heap.size]? = some (.cells (nowCells now) 30 (0, 0))) (hsz : w.heap.size + 2 ≤ w2.heap.size) (hin : inB th nx now k = true) (q : Nat) : Rel1 w ((ChangeMaps.setBlock w3 (w.heap.size + 1) ob).drewN q) (k + 1) th nx ak nm now mp v' := by
  have e : ins th nx now (k + 1) = ins th nx now k ++ [k] := by rw [ins_succ, hin]; simp
  have hb3 : Below w.heap.size w w3 := (hbel.alloc hbel.size _).grown hgrow (by simp; omega) (fun j hj => by have := (hown.lt j hj).1; omega)
  refine ⟨?_, ⟨f', c', hmap, hhi⟩, (MapFn.setBlock_below hb3 (b := w.heap.size + 1) (by omega) ob).trans ⟨rfl, rfl, rfl, Nat.le_refl _, fun _ _ => rfl⟩, ?_, ?_⟩
  · rw [e]
    simp only [List.length_append, List.map_append, List.length_cons, List.length_nil, List.map_cons, List.map_nil]
    exact own_setBlock hown' (by omega) _
  · show (ChangeMaps.setBlock w3 (w.heap.size + 1) ob).heap[w.heap.size]? = _
    rw [MapFn.setBlock_other _ _ _ (by omega)]
    exact (grown_cell hown hgrow (by omega) (by omega)).trans hnow
  · have := hgrow.size; simp at this
    show _ ≤ (ChangeMaps.setBlock w3 (w.heap.size + 1) ob).heap.size
    rw [MapFn.setBlock_size]; omega

/-- The shape of an owned row of pointers. -/
theorem own_form {w : World} {base : Nat} {e : TypeId} {v : Value} {xs : List Value} (h : w.ownsRow base e 1 v xs.length xs) :
    ∃ ao cap, v = .slice ao xs.length cap ∧ (0 < xs.length → ∃ g, ao = some ⟨g, 0, none⟩ ∧ ∀ i u, xs[i]? = some u → w.cell? ⟨g, i, none⟩ = some u) := by
  have hc := fun g (hg : v.ownBlock = some g) => h.cells hg
  rcases h.2 with ⟨rfl, h0⟩ | ⟨g, cap, cur, rfl, _⟩
  · exact ⟨none, 0, by rw [h0], fun h => by omega⟩
  · refine ⟨_, cap, rfl, fun _ => ⟨g, rfl, fun i u hu => ?_⟩⟩
    have := hc g rfl i u hu
    rwa [Addr.add_lit, Nat.zero_add] at this

def Rel2 (w wx wq : World) (j n : Nat) (th nx ak nm : Nat → Int) (now : Int) (mp : Nat → Nat) (v : Value) : Prop :=
  wq.ownsRow wx.heap.size 25 1 v (((ins th nx now n).take j).filter (topB th nx ak nm now n)).length ((((ins th nx now n).take j).filter (topB th nx ak nm now n)).map (ptr mp)) ∧ Below wx.heap.size wx wq

theorem own_mono {w : World} {base base' : Nat} {e : TypeId} {sz m : Nat} {v : Value} {xs : List Value} (h : w.ownsRow base e sz v m xs) (hb : base' ≤ base) : w.ownsRow base' e sz v m xs := by
  obtain ⟨h1, h2⟩ := h
  refine ⟨h1, ?_⟩
  rcases h2 with h2 | ⟨g, cap, cur, hv, hg, r⟩
  · exact .inl h2
  · exact .inr ⟨g, cap, cur, hv, by omega, r⟩

theorem Rel2.kept {w wx wq w' : World} {j n : Nat} {th nx ak nm : Nat → Int} {now : Int} {mp : Nat → Nat} {v : Value} (h : Rel2 w wx wq j n th nx ak nm now mp v) (hb : Below wq.heap.size wq w') : Rel2 w wx w' j n th nx ak nm now mp v :=
  ⟨h.1.kept (row := none) ⟨hb.os, hb.tape, hb.output, hb.size, fun k hk _ => hb.block k hk⟩ (by cases hv : v.ownBlock <;> simp), h.2.trans (hb.mono h.2.size)⟩

theorem take_snoc' (l : List Nat) (j : Nat) (h : j < l.length) : l.take (j + 1) = l.take j ++ [l[j]] := List.take_succ_eq_append_getElem h

theorem Rel2.skip {w wx wq : World} {j n ix : Nat} {th nx ak nm : Nat → Int} {now : Int} {mp : Nat → Nat} {v : Value} (h : Rel2 w wx wq j n th nx ak nm now mp v) {hlt' : j < (ins th nx now n).length} (hix : ix = (ins th nx now n)[j]) (hlt : j < (ins th nx now n).length)
    (ht : ¬ topB th nx ak nm now n ix = true) : Rel2 w wx wq (j + 1) n th nx ak nm now mp v := by
  have e : ((ins th nx now n).take (j + 1)).filter (topB th nx ak nm now n) = ((ins th nx now n).take j).filter (topB th nx ak nm now n) := by
    rw [take_snoc' _ _ hlt, List.filter_append, ← hix, List.filter_cons, if_neg ht]; simp
  unfold Rel2
  rw [e]
  exact h

theorem Rel2.put {w wx w2 w3 : World} {o : Obj} {j n ix : Nat} {th nx ak nm : Nat → Int} {now : Int} {mp : Nat → Nat} {v v' : Value} {m : Nat} {xs : List Value}
    (hown : w2.ownsRow wx.heap.size 25 1 v m xs) (hgrow : (w2.alloc o).grownBy w3 v.ownBlock)
    (hown' : w3.ownsRow wx.heap.size 25 1 v' ((((ins th nx now n).take j).filter (topB th nx ak nm now n)).length + 1) ((((ins th nx now n).take j).filter (topB th nx ak nm now n)).map (ptr mp) ++ [ptr mp ix]))
    (hb : Below wx.heap.size wx w2) {hlt' : j < (ins th nx now n).length} (hix : ix = (ins th nx now n)[j]) (hlt : j < (ins th nx now n).length) (ht : topB th nx ak nm now n ix = true) : Rel2 w wx w3 (j + 1) n th nx ak nm now mp v' := by
  have e : ((ins th nx now n).take (j + 1)).filter (topB th nx ak nm now n) = ((ins th nx now n).take j).filter (topB th nx ak nm now n) ++ [ix] := by
    rw [take_snoc' _ _ hlt, List.filter_append, ← hix, List.filter_cons, if_pos ht]; simp
  refine ⟨?_, (hb.alloc hb.size _).grown hgrow (by have := hb.size; simp; omega) (fun i hi => (hown.lt i hi).1)⟩
  rw [e]
  simp only [List.length_append, List.map_append, List.length_cons, List.length_nil, List.map_cons, List.map_nil]
  exact hown'

theorem Rel1.start (w : World) (th nx ak nm : Nat → Int) (now : Int) (mp : Nat → Nat) : Rel1 w ((w.alloc (.cells (nowCells now) 30)).alloc (.map #[] 0)) 0 th nx ak nm now mp (.slice none 0 0) := by
  refine ⟨World.ownsRow_nil _ _ _ _, ⟨fun _ => none, 0, ?_, Hi.start w⟩, ?_, ?_, ?_⟩
  · have := MapIs.made Value.string (fun s : ByteArray => s.size ≤ maxLen) (w.alloc (.cells (nowCells now) 30))
    simpa using this
  · exact ((Below.refl _ _).alloc (Nat.le_refl _) _).alloc (by simp) _
  · rw [Below.heap_alloc _ _ _ (by simp)]; exact heap_alloc_new w _
  · simp

theorem after_any' (d c : Int) (w : World) :
    Calls Yba.prog 15 #[.agg #[.int .u64 (d % 1000000000), .int .i64 (d / 1000000000), .pointer none], .agg #[.int .u64 (c % 1000000000), .int .i64 (c / 1000000000), .pointer none]] w fun e w' => e = .returned (.bool (decide (c < d))) ∧ Below w.heap.size w w' := after_any d c w

/-- What the test of a round reads. -/
def Nine (w : World) (p nb : Nat) (t x now : Int) : Prop :=
  w.cell? ⟨p, 1, none⟩ = some (.int .u64 (t % 1000000000)) ∧ w.cell? ⟨p, 2, none⟩ = some (.int .i64 (t / 1000000000)) ∧ w.cell? ⟨p, 3, none⟩ = some (.pointer none) ∧
  w.cell? ⟨p, 4, none⟩ = some (.int .u64 (x % 1000000000)) ∧ w.cell? ⟨p, 5, none⟩ = some (.int .i64 (x / 1000000000)) ∧ w.cell? ⟨p, 6, none⟩ = some (.pointer none) ∧
  w.cell? ⟨nb, 0, none⟩ = some (.int .u64 (now % 1000000000)) ∧ w.cell? ⟨nb, 1, none⟩ = some (.int .i64 (now / 1000000000)) ∧ w.cell? ⟨nb, 2, none⟩ = some (.pointer none)

theorem Nine.kept {W w1 : World} {B p nb : Nat} {t x now : Int} (h : Nine W p nb t x now) (hb : Below B W w1) (h1 : p < B) (h2 : nb < B) : Nine w1 p nb t x now := by
  obtain ⟨a0, a1, a2, a3, a4, a5, a6, a7, a8⟩ := h
  exact ⟨keepCell hb a0 h1, keepCell hb a1 h1, keepCell hb a2 h1, keepCell hb a3 h1, keepCell hb a4 h1, keepCell hb a5 h1, keepCell hb a6 h2, keepCell hb a7 h2, keepCell hb a8 h2⟩

theorem below_of_drew {B : Nat} {w w' : World} (h : Below B w.drew w') : Below B w w' := ⟨h.os, h.tape, h.output, h.size, h.block⟩

attribute [local go_sem ↓] Go.wp_at_zero Go.wp_at_succ

set_option maxHeartbeats 1000000 in
theorem current_any (L n : Nat) (th nx ak nm : Nat → Int) (now : Int) (mp : Nat → Nat) (w : World) (hn : n ≤ 1024) (hr : Rng n th nx ak nm) (hM : Mans w L n n mp th nx ak nm) :
    Calls Yba.prog 7 #[.slice (some ⟨L, 0, none⟩) n n, .agg (nowCells now)] w fun e w' => ∃ v, e = .returned v ∧
      w'.ownsRow w.heap.size 25 1 v (res th nx ak nm now n).length ((res th nx ak nm now n).map (ptr mp)) ∧ Below w.heap.size w w' := by
  obtain ⟨i0, hi, hz0, hz1, hz2⟩ := info_parts info25
  have hmm := @run_makeMap Yba.prog
  unfold nowCells
  have HR : Hid (Rng n th nx ak nm) := hr
  have HM : Hid (Mans w L n n mp th nx ak nm) := hM
  have hL : L < w.heap.size := by obtain ⟨⟨cur, hh, _⟩, _⟩ := hM; exact block_lt hh
  clear hr hM
  go_enter Yba.func7, Yba.ntmps7
  go_wp2_with fail
  go_loopw [5, 16] (fun v i wr => ∃ k : Nat, k ≤ n ∧ i = .int .i64 k ∧ Rel1 w wr k th nx ak nm now mp v) (fun _ i _ => n - (intOf i).toNat)
  case atStart => exact ⟨0, Nat.zero_le _, rfl, Rel1.start w th nx ak nm now mp⟩
  case round =>
    obtain ⟨k, hk, rfl, hR⟩ := hrel
    by_cases hlt : k < n
    · obtain ⟨⟨r0, r0'⟩, ⟨r1, r1'⟩, ⟨r2, r2'⟩, ⟨r3, r3'⟩⟩ := HR.out k hlt
      obtain ⟨r, v, hman, hbig, hby⟩ := HM.out.2 k hlt
      obtain ⟨cur, hcur, hcs, hcc⟩ := HM.out.1
      have cL : wr.cell? ⟨L, k, none⟩ = some (.pointer (some ⟨mp k, 0, none⟩)) := by
        rw [hR.2.2.1.cell (by exact hL), block_cell hcur, hcc k hlt]
      have hman' : wr.heap[mp k]? = some (.cells (manCells r (th k) (nx k) v) 42 (0, 0)) := (hR.2.2.1.block _ (block_lt hman)).trans hman
      have m0 : wr.cell? ⟨mp k, 0, none⟩ = some (.pointer (some ⟨r, 0, none⟩)) := block_cell hman' 0
      have m1 : wr.cell? ⟨mp k, 1, none⟩ = some (.int .u64 (th k % 1000000000)) := block_cell hman' 1
      have m2 : wr.cell? ⟨mp k, 2, none⟩ = some (.int .i64 (th k / 1000000000)) := block_cell hman' 2
      have m3 : wr.cell? ⟨mp k, 3, none⟩ = some (.pointer none) := block_cell hman' 3
      have m4 : wr.cell? ⟨mp k, 4, none⟩ = some (.int .u64 (nx k % 1000000000)) := block_cell hman' 4
      have m5 : wr.cell? ⟨mp k, 5, none⟩ = some (.int .i64 (nx k / 1000000000)) := block_cell hman' 5
      have m6 : wr.cell? ⟨mp k, 6, none⟩ = some (.pointer none) := block_cell hman' 6
      have m8 : wr.cell? ⟨mp k, 8, none⟩ = some v := block_cell hman' 8
      have n0 : wr.cell? ⟨w.heap.size, 0, none⟩ = some (.int .u64 (now % 1000000000)) := block_cell hR.2.2.2.1 0
      have n1 : wr.cell? ⟨w.heap.size, 1, none⟩ = some (.int .i64 (now / 1000000000)) := block_cell hR.2.2.2.1 1
      have n2 : wr.cell? ⟨w.heap.size, 2, none⟩ = some (.pointer none) := block_cell hR.2.2.2.1 2
      clear hman' hcur hcc hcs
      have Hrel : Hid (Rel1 w wr k th nx ak nm now mp _) := hR
      have hsz : w.heap.size + 2 ≤ wr.heap.size := hR.2.2.2.2
      have hmp : mp k < wr.heap.size := World.block_lt_of_cell? wr _ m0
      clear hR
      go_wp2_with fail
      have HN : Hid (Nine wr (mp k) w.heap.size (th k) (nx k) now) := ⟨m1, m2, m3, m4, m5, m6, n0, n1, n2⟩
      have x1 : ∀ x : Later wr.heap.size wr, x.1.cell? ⟨mp k, 1, none⟩ = some (.int .u64 (th k % 1000000000)) := fun x => x.cell m1 hmp
      have x2 : ∀ x : Later wr.heap.size wr, x.1.cell? ⟨mp k, 2, none⟩ = some (.int .i64 (th k / 1000000000)) := fun x => x.cell m2 hmp
      have x3 : ∀ x : Later wr.heap.size wr, x.1.cell? ⟨mp k, 3, none⟩ = some (.pointer none) := fun x => x.cell m3 hmp
      have x4 : ∀ x : Later wr.heap.size wr, x.1.cell? ⟨mp k, 4, none⟩ = some (.int .u64 (nx k % 1000000000)) := fun x => x.cell m4 hmp
      have x5 : ∀ x : Later wr.heap.size wr, x.1.cell? ⟨mp k, 5, none⟩ = some (.int .i64 (nx k / 1000000000)) := fun x => x.cell m5 hmp
      have x6 : ∀ x : Later wr.heap.size wr, x.1.cell? ⟨mp k, 6, none⟩ = some (.pointer none) := fun x => x.cell m6 hmp
      have y0 : ∀ x : Later wr.heap.size wr, x.1.cell? ⟨w.heap.size, 0, none⟩ = some (.int .u64 (now % 1000000000)) := fun x => x.cell n0 (by show w.heap.size < _; omega)
      have y1 : ∀ x : Later wr.heap.size wr, x.1.cell? ⟨w.heap.size, 1, none⟩ = some (.int .i64 (now / 1000000000)) := fun x => x.cell n1 (by show w.heap.size < _; omega)
      have y2 : ∀ x : Later wr.heap.size wr, x.1.cell? ⟨w.heap.size, 2, none⟩ = some (.pointer none) := fun x => x.cell n2 (by show w.heap.size < _; omega)
      have hne : Nonempty (Later wr.heap.size wr) := ⟨⟨wr, Below.refl _ _⟩⟩
      by_cases ha : now < th k
      · have hA : Hid (∀ W, Calls Yba.prog 15 #[.agg #[.int .u64 (th k % 1000000000), .int .i64 (th k / 1000000000), .pointer none], .agg #[.int .u64 (now % 1000000000), .int .i64 (now / 1000000000), .pointer none]] W fun e w' => e = .returned (.bool true) ∧ Below W.heap.size W w') := fun W => by
          have := after_any' (th k) now W
          rw [decide_eq_true ha] at this
          exact this
        refine wp_region_later wr.heap.size (by kernel_rfl) (by kernel_rfl) ?_
        repeat (go_big_quiet_step ((go_at_call 15; refine later_of (hA.out _) (Nat.le_refl _))))
        refine wpQuiet_nil ?_
        rintro _ ⟨⟨w2, hb2⟩, rfl⟩
        have Hrel' := hid (Hrel.out.skip hb2 (by unfold inB; simp; omega))
        clear Hrel x1 x2 x3 x4 x5 x6 y0 y1 y2 hA HN
        go_wp2_with fail
        go_roundw
        case rel => exact ⟨k + 1, by omega, by go_num, Hrel'.out⟩
        case measure => simp [intOf]; omega
      · by_cases hb : now < nx k
        · have hA : Hid (∀ W, Calls Yba.prog 15 #[.agg #[.int .u64 (th k % 1000000000), .int .i64 (th k / 1000000000), .pointer none], .agg #[.int .u64 (now % 1000000000), .int .i64 (now / 1000000000), .pointer none]] W fun e w' => e = .returned (.bool false) ∧ Below W.heap.size W w') := fun W => by
            have := after_any' (th k) now W
            rw [decide_eq_false ha] at this
            exact this
          have hA2 : Hid (∀ W, Calls Yba.prog 15 #[.agg #[.int .u64 (nx k % 1000000000), .int .i64 (nx k / 1000000000), .pointer none], .agg #[.int .u64 (now % 1000000000), .int .i64 (now / 1000000000), .pointer none]] W fun e w' => e = .returned (.bool true) ∧ Below W.heap.size W w') := fun W => by
            have := after_any' (nx k) now W
            rw [decide_eq_true hb] at this
            exact this
          refine wp_region_later wr.heap.size (by kernel_rfl) (by kernel_rfl) ?_
          repeat (go_big_quiet_step (first | (go_at_call_of 15 (th k); refine later_of (hA.out _) (Nat.le_refl _)) | (go_at_call_of 15 (nx k); refine later_of (hA2.out _) (Nat.le_refl _))))
          refine wpQuiet_nil ?_
          rintro w2 ⟨⟨w2', hb2⟩, hx⟩
          obtain rfl : w2 = w2' := hx
          have hin : Hid (inB th nx now k = true) := by unfold Hid inB; simp; omega
          obtain ⟨hown, ⟨f, c, hmap, hhi⟩, hbel, hnow, hsz2⟩ := Hrel.out.kept hb2
          have k0 : w2.cell? ⟨mp k, 0, none⟩ = some (.pointer (some ⟨r, 0, none⟩)) := keepCell hb2 m0 hmp
          have k8 : w2.cell? ⟨mp k, 8, none⟩ = some v := keepCell hb2 m8 hmp
          have hmp2 : mp k < w2.heap.size := Nat.lt_of_lt_of_le hmp hb2.size
          have hbig2 : Big w2 r (nm k) := hbig.kept (Keeps.of_below hbel)
          have hby2 : Bytes w2 v (akiS (ak k)) := hby.kept (Keeps.of_below hbel)
          have hil := ins_le th nx now k
          have Hmap := hid hmap
          have Hhi := hid hhi
          have Hbel := hid hbel
          have Hnow := hid hnow
          have Hbig := hid hbig2
          have Hby := hid hby2
          have Hman2 : Hid (w2.heap[mp k]? = some (.cells (manCells r (th k) (nx k) v) 42 (0, 0))) := (hbel.block _ (block_lt hman)).trans hman
          have hbw : r < w.heap.size := hbig.lt
          clear Hrel x1 x2 x3 x4 x5 x6 y0 y1 y2 hA hA2 HN hb2 hmap hhi hbel hnow hbig2 hby2 m0 m1 m2 m3 m4 m5 m6 m8 n0 n1 n2 cL hsz
          go_wp2_with (at_builtin; refine wpList_append_own _ rfl _ _ 23 rfl (w.heap.size + 2) 25 i0 (.pointer none) 1 8 Yba.underlying23 hi hz0 hz1 hz2 rfl (by decide) _ _ _ rfl (hown.alloc _) ⟨w2.heap.size, 0, none⟩ 1 1 [ptr mp k] rfl rfl ?c1 ?c2 ?c3 ?c4 ?c5 ?_)
          case c1 => exact fun j u h => h
          case c2 => rfl
          case c3 => unfold maxLen; omega
          case c4 => omega
          case c5 => omega
          intro v' w3 hown' hgrow hnn
          have hK3 : Keeps w2 w3 := by
            intro b cs t fz ht hbk
            rw [hgrow.block b (by have := block_lt hbk; simp; omega) (fun h => ?_)]
            · rw [Below.heap_alloc _ _ _ (block_lt hbk)]; exact hbk
            · rcases hown.2 with ⟨rfl, _⟩ | ⟨g, cap, cur, rfl, _, hh, _⟩
              · cases h
              · have e : b = g := by injection h
                subst e
                rw [hh] at hbk
                cases hbk
                exact ht rfl
          have hman3 : w3.heap[mp k]? = some (.cells (manCells r (th k) (nx k) v) 42 (0, 0)) := hK3 _ _ _ _ (by decide) Hman2.out
          have j0 : w3.cell? ⟨mp k, 0, none⟩ = some (.pointer (some ⟨r, 0, none⟩)) := block_cell hman3 0
          have j8 : w3.cell? ⟨mp k, 8, none⟩ = some v := block_cell hman3 8
          have hcv : (convert 39 9 v).run Yba.prog w3 = .ok (.string (akiS (ak k))) w3 := run_conv w3 v _ (Hby.out.kept hK3)
          have hmap3 := Hmap.out.kept (grown_cell hown hgrow (b := w.heap.size + 1) (by omega) (by omega))
          have hlk := MapFn.run_look enc9 hmap3 Yba.underlying68 (zero37 w3) (akiS_ok (ak k)) false
          have Hmap3 := hid hmap3
          have Hgrow := hid hgrow
          have Hown := hid hown
          have Hown' := hid hown'
          have HK3 := hid hK3
          clear hgrow hown hown' hK3 hman3 k0 k8 hmap3 hman
          rcases Hhi.out (akiS (ak k)) with ⟨g1, g2⟩ | ⟨r', x', g1, g2, g0, g3, g4⟩
          · rw [g1] at hlk
            simp only [Option.getD_none, Bool.false_eq_true, if_false] at hlk
            have hput := MapFn.run_put enc9 Hmap3.out Yba.underlying68 (akiS_ok (ak k)) (.pointer (some ⟨r, 0, none⟩))
            obtain ⟨o, hrun, hm4⟩ := hput
            have hrun1 : (Instr.mapUpdate 68 (.map (some (w.heap.size + 1))) (.string (akiS (ak k))) (.pointer (some ⟨r, 0, none⟩))).run Yba.prog w3.drew = .ok () (ChangeMaps.setBlock w3 (w.heap.size + 1) o).drew := hrun 1
            have hcv1 : (convert 39 9 v).run Yba.prog w3.drew = .ok (.string (akiS (ak k))) w3.drew := run_conv w3.drew v _ (Hby.out.kept (fun b cs t fz ht h => HK3.out b cs t fz ht h))
            have Hm4 := hid hm4
            have Hg2 := hid g2
            clear hm4 g2 hrun
            go_wp2_with fail
            go_region
            have Hrel' := hid (Rel1.put Hown.out Hgrow.out Hown'.out Hm4.out (Hhi.out.put hin.out hbig r3 (fun j hj hi he => absurd he (Hg2.out j hj hi))) Hbel.out Hnow.out hsz2 hin.out 1)
            clear Hown Hgrow Hown' Hm4 Hhi Hbel Hnow Hmap Hmap3 hcv hcv1 hlk hrun1
            go_wp2_with fail
            go_roundw
            case rel => exact ⟨k + 1, by omega, by go_num, Hrel'.out⟩
            case measure => simp [intOf]; omega
          · rw [g1] at hlk
            simp only [Option.getD_some, Bool.false_eq_true, if_false] at hlk
            have hC := hid (fun q => cmp_any r r' (nm k) x' r3 g0 (w3.drewN q) ((Hbig.out.kept HK3.out).kept (fun b cs t fz ht h => h)) (((g2.kept (Keeps.of_below Hbel.out)).kept HK3.out).kept (fun b cs t fz ht h => h)) (fun e => hbig.inj (by rw [e]; exact g2)))
            have hcvq : ∀ q, (convert 39 9 v).run Yba.prog (w3.drewN q) = .ok (.string (akiS (ak k))) (w3.drewN q) := fun q => run_conv (w3.drewN q) v _ (Hby.out.kept (fun b cs t fz ht h => HK3.out b cs t fz ht h))
            by_cases hx : x' < nm k
            · have hc1 : cmpN (nm k) x' = 1 := by unfold cmpN; rw [if_neg (by omega), if_pos hx]
              rw [hc1] at hC
              obtain ⟨o, hrun, hm4⟩ := MapFn.run_put enc9 Hmap3.out Yba.underlying68 (akiS_ok (ak k)) (.pointer (some ⟨r, 0, none⟩))
              have Hm4 := hid hm4
              have Hg4 := hid g4
              clear hm4 g2 g3 g4 hc1 g1
              go_wp2_with fail
              refine (hC.out 0).mono ?_
              rintro e w4 ⟨rfl, q, rfl⟩
              go_wp2_with fail
              go_region
              have Hrel' := hid (Rel1.put Hown.out Hgrow.out Hown'.out Hm4.out (Hhi.out.put hin.out hbig r3 (fun j hj hi he => by have := Hg4.out j hj hi he; omega)) Hbel.out Hnow.out hsz2 hin.out (q + 1))
              clear Hown Hgrow Hown' Hm4 Hhi Hbel Hnow Hmap Hmap3 hcv hcvq hlk hrun
              go_wp2_with fail
              go_roundw
              case rel => exact ⟨k + 1, by omega, by go_num, Hrel'.out⟩
              case measure => simp [intOf]; omega
            · obtain ⟨cc, hcc, hcle⟩ : ∃ cc, cmpN (nm k) x' = cc ∧ cc ≤ 0 := ⟨_, rfl, by unfold cmpN; split <;> (try split) <;> omega⟩
              rw [hcc] at hC
              have Hg := hid (Hhi.out.stay g1 g2 (by omega))
              clear g2 g3 g4 hcc g1
              go_wp2_with fail
              refine (hC.out 0).mono ?_
              rintro e w4 ⟨rfl, q, rfl⟩
              have Hrel' := hid (Rel1.stay Hown.out Hgrow.out Hown'.out Hmap.out Hg.out Hbel.out Hnow.out hsz2 hin.out q)
              clear Hown Hgrow Hown' Hhi Hbel Hnow Hmap Hmap3 hcv hcvq hlk
              go_wp2_with fail
              go_roundw
              case rel => exact ⟨k + 1, by omega, by go_num, Hrel'.out⟩
              case measure => simp [intOf]; omega
        · have hA : Hid (∀ W, Calls Yba.prog 15 #[.agg #[.int .u64 (th k % 1000000000), .int .i64 (th k / 1000000000), .pointer none], .agg #[.int .u64 (now % 1000000000), .int .i64 (now / 1000000000), .pointer none]] W fun e w' => e = .returned (.bool false) ∧ Below W.heap.size W w') := fun W => by
            have := after_any' (th k) now W
            rw [decide_eq_false ha] at this
            exact this
          have hA2 : Hid (∀ W, Calls Yba.prog 15 #[.agg #[.int .u64 (nx k % 1000000000), .int .i64 (nx k / 1000000000), .pointer none], .agg #[.int .u64 (now % 1000000000), .int .i64 (now / 1000000000), .pointer none]] W fun e w' => e = .returned (.bool false) ∧ Below W.heap.size W w') := fun W => by
            have := after_any' (nx k) now W
            rw [decide_eq_false hb] at this
            exact this
          refine wp_region_later wr.heap.size (by kernel_rfl) (by kernel_rfl) ?_
          repeat (go_big_quiet_step (first | (go_at_call_of 15 (th k); refine later_of (hA.out _) (Nat.le_refl _)) | (go_at_call_of 15 (nx k); refine later_of (hA2.out _) (Nat.le_refl _))))
          refine wpQuiet_nil ?_
          rintro _ ⟨⟨w2, hb2⟩, rfl⟩
          have Hrel' := hid (Hrel.out.skip hb2 (by unfold inB; simp; omega))
          clear Hrel x1 x2 x3 x4 x5 x6 y0 y1 y2 hA hA2 HN
          go_wp2_with fail
          go_roundw
          case rel => exact ⟨k + 1, by omega, by go_num, Hrel'.out⟩
          case measure => simp [intOf]; omega
    · obtain rfl : k = n := by omega
      obtain ⟨hown, ⟨f, c, hmap, hhi⟩, hbel, hnow, hsz⟩ := hR
      obtain ⟨ao, cap, hv, hao⟩ := own_form (xs := (ins th nx now k).map (ptr mp)) (by simpa using hown)
      simp only [List.length_map] at hv hao
      have Hown := hid hown
      have Hmap := hid hmap
      have Hhi := hid hhi
      have Hbel := hid hbel
      have hil := ins_le th nx now k
      clear hown hmap hhi hbel hnow hmm
      subst hv
      go_wp2_with fail
      obtain ⟨wx, hwx⟩ : ∃ wx : World, wx = wr := ⟨_, rfl⟩
      subst hwx
      go_loopw [10, 70] (fun v i wq => ∃ j : Nat, j ≤ (ins th nx now k).length ∧ i = .int .i64 j ∧ Rel2 w wx wq j k th nx ak nm now mp v) (fun _ i _ => (ins th nx now k).length - (intOf i).toNat)
      case atStart => exact ⟨0, Nat.zero_le _, rfl, World.ownsRow_nil _ _ _ _, Below.refl _ _⟩
      case round =>
        obtain ⟨j, hj, rfl, hR⟩ := hrel
        by_cases hlt : j < (ins th nx now k).length
        · obtain ⟨g, hg, hgc⟩ := hao (by omega)
          subst hg
          obtain ⟨ix, hix⟩ : ∃ ix, ix = (ins th nx now k)[j] := ⟨_, rfl⟩
          have hmem : ix ∈ ins th nx now k := by rw [hix]; exact List.getElem_mem hlt
          have hin : inB th nx now ix = true := by unfold ins at hmem; exact (List.mem_filter.1 hmem).2
          have hixn : ix < k := by unfold ins at hmem; simpa using (List.mem_filter.1 hmem).1
          obtain ⟨⟨r0, r0'⟩, ⟨r1, r1'⟩, ⟨r2, r2'⟩, ⟨r3, r3'⟩⟩ := HR.out ix hixn
          obtain ⟨r, v, hman, hbig, hby⟩ := HM.out.2 ix hixn
          obtain ⟨r', x', g1, g2, g0, g3⟩ := Hhi.out.top hixn hin
          have hbq : Below w.heap.size w wr := Hbel.out.trans (hR.2.mono (by omega))
          have cj : wr.cell? ⟨g, j, none⟩ = some (.pointer (some ⟨mp ix, 0, none⟩)) := by
            have hcj := hgc j (ptr mp ix) (by rw [List.getElem?_map, List.getElem?_eq_getElem hlt, ← hix]; rfl)
            exact (hR.2.cell (World.block_lt_of_cell? wx _ hcj)).trans hcj
          have hne : Nonempty (Later wr.heap.size wr) := ⟨⟨wr, Below.refl _ _⟩⟩
          have hman' : wr.heap[mp ix]? = some (.cells (manCells r (th ix) (nx ix) v) 42 (0, 0)) := (hbq.block _ (block_lt hman)).trans hman
          have x0 : ∀ x : Later wr.heap.size wr, x.1.cell? ⟨mp ix, 0, none⟩ = some (.pointer (some ⟨r, 0, none⟩)) := fun x => x.cell (block_cell hman' 0) (block_lt hman')
          have x8 : ∀ x : Later wr.heap.size wr, x.1.cell? ⟨mp ix, 8, none⟩ = some v := fun x => x.cell (block_cell hman' 8) (block_lt hman')
          have hbx : ∀ x : Later wr.heap.size wr, Below w.heap.size w x.1 := fun x => hbq.trans (x.2.mono hbq.size)
          have xcv : ∀ x : Later wr.heap.size wr, (convert 39 9 v).run Yba.prog x.1 = .ok (.string (akiS (ak ix))) x.1 := fun x => run_conv x.1 v _ (hby.kept (Keeps.of_below (hbx x)))
          have xlk : ∀ x : Later wr.heap.size wr, (Instr.lookup 68 (.map (some (w.heap.size + 1))) (.string (akiS (ak ix))) false).run Yba.prog x.1 = .ok (.pointer (some ⟨r', 0, none⟩)) x.1 := fun x => by
            have hmx := (Hmap.out.kept (hR.2.block _ (by omega))).kept (x.2.block _ (by have := hR.2.size; omega))
            have := MapFn.run_look enc9 hmx Yba.underlying68 (zero37 x.1) (akiS_ok (ak ix)) false
            rw [g1] at this
            simpa using this
          have xcmp := hid (fun x : Later wr.heap.size wr => cmp_any r r' (nm ix) x' r3 g0 x.1 (hbig.kept (Keeps.of_below (hbx x))) (g2.kept (Keeps.of_below (hbx x))) (fun e => hbig.inj (by rw [e]; exact g2)))
          have HR2 := hid hR
          have Hix := hid hix
          clear hman hman' hbig hby g1 g2 hbq hbx hgc hR hix
          by_cases ht : topB th nx ak nm now k ix = true
          · rw [g3.2 ht] at xcmp
            have Ht := hid ht
            clear g3 ht
            go_wp2_with fail
            refine wp_region_later wr.heap.size (by kernel_rfl) (by kernel_rfl) ?_
            repeat (go_big_quiet_step ((go_at_call 16; refine later_drew (xcmp.out _))))
            refine wpQuiet_nil ?_
            rintro w2 ⟨⟨w2', hb2⟩, hx⟩
            obtain rfl : w2 = w2' := hx
            obtain ⟨hown, hbw⟩ := HR2.out.kept hb2
            have hfl : (((ins th nx now k).take j).filter (topB th nx ak nm now k)).length ≤ 1024 := by
              have := List.length_filter_le (topB th nx ak nm now k) ((ins th nx now k).take j)
              have := List.length_take_le j (ins th nx now k)
              omega
            have hs2 := hbw.size
            have Hbw := hid hbw
            clear xcmp HR2 hb2 x0 x8 xcv xlk hbw
            go_wp2_with (at_builtin; refine wpList_append_own _ rfl _ _ 23 rfl wx.heap.size 25 i0 (.pointer none) 1 8 Yba.underlying23 hi hz0 hz1 hz2 rfl (by decide) _ _ _ rfl (hown.alloc _) ⟨w2.heap.size, 0, none⟩ 1 1 [ptr mp ix] rfl rfl ?d1 ?d2 ?d3 ?d4 ?d5 ?_)
            case d1 => exact cell_one_new _ _ _
            case d2 => intro u hu; simp at hu; subst hu; rfl
            case d3 => unfold maxLen; omega
            case d4 => omega
            case d5 => simp; omega
            intro v' w3 hown' hgrow hnn
            have Hrel' := hid (Rel2.put (w := w) hown hgrow hown' Hbw.out Hix.out hlt Ht.out)
            clear hown hown' hgrow Hbw
            go_wp2_with fail
            go_roundw
            case rel => exact ⟨j + 1, by omega, by go_num, Hrel'.out⟩
            case measure => simp [intOf]; omega
          · obtain ⟨cc, hcc, hc0⟩ : ∃ cc, cmpN (nm ix) x' = cc ∧ (cc == 0) = false := ⟨_, rfl, by
              simp only [beq_eq_false_iff_ne]
              exact fun h => ht (g3.1 h)⟩
            rw [hcc] at xcmp
            have Ht := hid ht
            clear g3 ht hcc
            go_wp2_with fail
            refine wp_region_later wr.heap.size (by kernel_rfl) (by kernel_rfl) ?_
            repeat (go_big_quiet_step ((go_at_call 16; refine later_drew (xcmp.out _))))
            refine wpQuiet_nil ?_
            rintro w2 ⟨⟨w2', hb2⟩, hx⟩
            obtain rfl : w2 = w2' := hx
            have Hrel' := hid ((HR2.out.kept hb2).skip Hix.out hlt Ht.out)
            clear xcmp HR2 hb2 x0 x8 xcv xlk
            go_wp2_with fail
            go_roundw
            case rel => exact ⟨j + 1, by omega, by go_num, Hrel'.out⟩
            case measure => simp [intOf]; omega
        · obtain ⟨h1, h2⟩ := hR
          have e : j = (ins th nx now k).length := by omega
          rw [e, List.take_length] at h1
          have Hf := hid (show wr.ownsRow w.heap.size 25 1 u10 (res th nx ak nm now k).length ((res th nx ak nm now k).map (ptr mp)) from own_mono h1 (by omega))
          have Hb := hid (Hbel.out.trans (h2.mono (by omega)))
          clear h1 h2 e
          go_wp2_with fail
          go_ret
          exact ⟨_, rfl, Hf.out, Hb.out⟩
end Go.Proofs.Ybulkcajm.BM
