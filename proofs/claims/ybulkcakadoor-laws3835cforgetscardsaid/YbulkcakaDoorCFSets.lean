import Derived.Test.YbulkcakaDoorCFBook
namespace Go.Proofs.YbulkcakaDoor.CF
open Go.RowKit Ext
open MapFn (MapIs upd upd_same upd_other)
set_option maxRecDepth 10000
set_option linter.unusedSimpArgs false
set_option linter.unusedVariables false

theorem enc9 : MapFn.KeyEnc Ybad.prog 9 Value.string okS := MapFn.string_enc Ybad.underlying9

/-- w1 is w but for block b. -/
structure Turn (b : Nat) (w w1 : World) : Prop where
  os : w1.os = w.os
  tape : w1.tape = w.tape
  output : w1.output = w.output
  size : w1.heap.size = w.heap.size
  block : ∀ k, k ≠ b → w1.heap[k]? = w.heap[k]?

theorem Turn.cell {b : Nat} {w w1 : World} (h : Turn b w w1) {p : Addr} {v : Value} (hc : w.cell? p = some v) (hp : p.block ≠ b) : w1.cell? p = some v := (World.cell?_of_block (w := w) (h.block _ hp)).trans hc
theorem Turn.frame {b B : Nat} {w w1 : World} (h : Turn b w w1) (h0 : B ≤ b) (h1 : b < B + 8) : Frame B w w1 := ⟨h.os, h.tape, h.output, Nat.le_of_eq h.size.symm, fun k _ hk => h.block k (by omega)⟩
theorem turn_setBlock (w : World) (b : Nat) (o : Obj) : Turn b w (ChangeMaps.setBlock w b o) := ⟨rfl, rfl, rfl, MapFn.setBlock_size _ _ _, fun k hk => MapFn.setBlock_other _ _ _ hk⟩
theorem turn_setCell (w : World) (b i : Nat) (v : Value) : Turn b w (w.setCell ⟨b, i, none⟩ v) := ⟨rfl, rfl, rfl, by simp, fun k hk => Below.heap_setCell _ _ _ _ hk⟩

theorem put_w {w : World} {b n : Nat} {f : ByteArray → Option Value} (h : MapIs Value.string okS w b f n) {t e : TypeId} (ht : Ybad.prog.underlying t = some (.map 9 e)) {s : ByteArray} (hs : okS s) (v : Value) :
    ∃ w1, (∀ q, (Instr.mapUpdate t (.map (some b)) (.string s) v).run Ybad.prog (w.drewN q) = .ok () (w1.drewN q)) ∧ MapIs Value.string okS w1 b (upd f s (some v)) (if (f s).isSome then n else n + 1) ∧ Turn b w w1 := by
  obtain ⟨o, h1, h2⟩ := MapFn.run_put enc9 h ht hs v
  exact ⟨_, h1, h2, turn_setBlock _ _ _⟩

theorem del_w {w : World} {b n : Nat} {f : ByteArray → Option Value} (h : MapIs Value.string okS w b f n) {t e : TypeId} (ht : Ybad.prog.underlying t = some (.map 9 e)) {s : ByteArray} (hs : okS s) :
    ∃ w1, (∀ q ty, (Builtin.delete_ #[t, 9] ty #[.map (some b), .string s]).run Ybad.prog (w.drewN q) = .ok (.tuple #[]) (w1.drewN q)) ∧ MapIs Value.string okS w1 b (upd f s none) (if (f s).isSome then n - 1 else n) ∧ Turn b w w1 := by
  obtain ⟨o, h1, h2⟩ := MapFn.run_del (ty := 0) enc9 h ht hs
  refine ⟨_, fun q ty => ?_, h2, turn_setBlock _ _ _⟩
  rw [← h1 q]
  rfl

def updI {β : Type} (f : ByteArray → β) (a : ByteArray) (v : β) : ByteArray → β := fun x => if x = a then v else f x

theorem ints_upd (f : ByteArray → Option Int) (s : ByteArray) (r : Option Int) : ∀ x, ints (updI f s r) x = upd (ints f) s (r.map (Value.int .i64)) x := fun x => by
  unfold ints updI upd
  split <;> rfl
theorem shorts_upd (f : ByteArray → Int) (s : ByteArray) (a : Int) : ∀ x, shorts (updI f s a) x = upd (shorts f) s (if 0 < a then some (.agg #[.int .i64 a, .bool false]) else none) x := fun x => by
  unfold shorts updI upd
  split <;> rfl

/-- The other maps and claims, when one map of the book's has turned. -/
theorem claims_kept {w w' : World} {B : Nat} {p : Pl} {cl : ByteArray → Option Value} (h : ∀ s, (p.cl s = false → cl s = none) ∧ (p.cl s = true → ∃ v, cl s = some v ∧ Claim w B v)) (hf : Frame B w w') :
    ∀ s, (p.cl s = false → cl s = none) ∧ (p.cl s = true → ∃ v, cl s = some v ∧ Claim w' B v) := fun s => ⟨(h s).1, fun hs => by obtain ⟨v, a, b⟩ := (h s).2 hs; exact ⟨v, a, b.kept hf⟩⟩

def setReq (p : Pl) (s : ByteArray) (r : Int) (nd : Nat) : Pl := { p with rq := updI p.rq s (some r), nr := if (p.rq s).isSome then p.nr else p.nr + 1, nd := nd }

set_option maxHeartbeats 400000 in
theorem setRequest_any (B : Nat) (p : Pl) (s : ByteArray) (r : Int) (hs : okS s) (h0 : 0 ≤ r) (w : World) (h : Book w B p) :
    Calls Ybad.prog 11 #[.pointer (some ⟨B + 7, 0, none⟩), .string s, .int .i64 r] w fun e w' => e = .returned (.bool true) ∧ (∃ nd, Book w' B (setReq p s r nd)) ∧ Frame B w w' := by
  have hl := h.lt
  obtain ⟨k1, k2, ⟨du, k3⟩, ⟨cl, k4, k5⟩, k6, k7⟩ := h
  obtain ⟨w1, r1, m1, t1⟩ := put_w k2 Ybad.underlying70 hs (.int .i64 r)
  obtain ⟨w2, r2, m2, t2⟩ := put_w (k3.kept (t1.block _ (by omega))) Ybad.underlying72 hs (.bool true)
  have c2 : w.cell? ⟨B + 7, 2, none⟩ = some (.map (some (B + 2))) := block_cell k1 2
  have c4 : w1.cell? ⟨B + 7, 4, none⟩ = some (.map (some (B + 3))) := t1.cell (block_cell k1 4) (by show B + 7 ≠ B + 2; omega)
  have e1 : (Instr.mapUpdate 70 (.map (some (B + 2))) (.string s) (.int .i64 r)).run Ybad.prog w = .ok () w1 := r1 0
  have e2 : (Instr.mapUpdate 72 (.map (some (B + 3))) (.string s) (.bool true)).run Ybad.prog w1 = .ok () w2 := r2 0
  have f1 := t1.frame (B := B) (by omega) (by omega)
  have f2 := t2.frame (B := B) (by omega) (by omega)
  have Hf := hid (f1.trans f2)
  have HB := hid (show Book w2 B (setReq p s r _) from ⟨by rw [t2.block _ (by omega), t1.block _ (by omega)]; exact k1,
    ((m1.kept (t2.block _ (by omega))).congr (ints_upd p.rq s (some r))) |> (fun h => by simpa [setReq, ints] using h), ⟨_, m2⟩,
    ⟨cl, (k4.kept (t1.block _ (by omega))).kept (t2.block _ (by omega)), claims_kept k5 (f1.trans f2)⟩, (k6.kept (t1.block _ (by omega))).kept (t2.block _ (by omega)), (k7.kept (t1.block _ (by omega))).kept (t2.block _ (by omega))⟩)
  clear r1 r2 m1 m2 k1 k2 k3 k4 k5 k6 k7 f1 f2 t1 t2
  go_enter Ybad.func11, Ybad.ntmps11
  go_wp2
  go_ret
  exact ⟨rfl, ⟨_, HB.out⟩, Hf.out⟩

def setFull (p : Pl) (s : ByteArray) (r : Int) : Pl :=
  if r < 0 then { p with fu := updI p.fu s none, nf := if (p.fu s).isSome then p.nf - 1 else p.nf } else { p with fu := updI p.fu s (some r), nf := if (p.fu s).isSome then p.nf else p.nf + 1 }

set_option maxHeartbeats 400000 in
theorem setFull_any (B : Nat) (p : Pl) (s : ByteArray) (r : Int) (hs : okS s) (w : World) (h : Book w B p) :
    Calls Ybad.prog 12 #[.pointer (some ⟨B + 7, 0, none⟩), .string s, .int .i64 r] w fun e w' => e = .returned (.tuple #[]) ∧ Book w' B (setFull p s r) ∧ Frame B w w' := by
  have hl := h.lt
  obtain ⟨k1, k2, ⟨du, k3⟩, ⟨cl, k4, k5⟩, k6, k7⟩ := h
  have c12 : w.cell? ⟨B + 7, 12, none⟩ = some (.map (some (B + 6))) := block_cell k1 12
  by_cases hr : r < 0
  · obtain ⟨w1, r1, m1, t1⟩ := del_w k7 Ybad.underlying70 hs
    have e1 : ∀ ty, (Builtin.delete_ #[70, 9] ty #[.map (some (B + 6)), .string s]).run Ybad.prog w = .ok (.tuple #[]) w1 := fun ty => r1 0 ty
    have f1 := t1.frame (B := B) (by omega) (by omega)
    have Hf := hid f1
    have HB := hid (show Book w1 B (setFull p s r) from by
      unfold setFull
      rw [if_pos hr]
      exact ⟨by rw [t1.block _ (by omega)]; exact k1, k2.kept (t1.block _ (by omega)), ⟨_, k3.kept (t1.block _ (by omega))⟩, ⟨cl, k4.kept (t1.block _ (by omega)), claims_kept k5 f1⟩, k6.kept (t1.block _ (by omega)),
        (m1.congr (ints_upd p.fu s none)) |> (fun h => by simpa [ints] using h)⟩)
    clear r1 m1 k1 k2 k3 k4 k5 k6 k7 f1 t1
    go_enter Ybad.func12, Ybad.ntmps12
    go_wp2_with (at_delete; refine MapFn.wpList_del_fn _ rfl _ _ 70 9 rfl (.map (some (B + 6))) (.string s) rfl rfl w1 e1 rfl ?_)
    exact bodyPost_ret (results_none rfl _ _ _) rfl ⟨rfl, HB.out, Hf.out⟩
  · obtain ⟨w1, r1, m1, t1⟩ := put_w k7 Ybad.underlying70 hs (.int .i64 r)
    have e1 : (Instr.mapUpdate 70 (.map (some (B + 6))) (.string s) (.int .i64 r)).run Ybad.prog w = .ok () w1 := r1 0
    have f1 := t1.frame (B := B) (by omega) (by omega)
    have Hf := hid f1
    have HB := hid (show Book w1 B (setFull p s r) from by
      unfold setFull
      rw [if_neg hr]
      exact ⟨by rw [t1.block _ (by omega)]; exact k1, k2.kept (t1.block _ (by omega)), ⟨_, k3.kept (t1.block _ (by omega))⟩, ⟨cl, k4.kept (t1.block _ (by omega)), claims_kept k5 f1⟩, k6.kept (t1.block _ (by omega)),
        (m1.congr (ints_upd p.fu s (some r))) |> (fun h => by simpa [ints] using h)⟩)
    clear r1 m1 k1 k2 k3 k4 k5 k6 k7 f1 t1
    go_enter Ybad.func12, Ybad.ntmps12
    go_wp2
    go_end0
    exact ⟨rfl, HB.out, Hf.out⟩

theorem fld59 (w : World) (x : Int) (y : Bool) : (Instr.field 59 (.agg #[.int .i64 x, .bool y]) 0).run Ybad.prog w = .ok (.int .i64 x) w := by kernel_rfl
theorem zero59 (w : World) : (zeroValue 59).run Ybad.prog w = .ok (.agg #[.int .i64 0, .bool false]) w := by kernel_rfl

theorem look_short {w : World} {b n : Nat} {f : ByteArray → Int} (h : MapIs Value.string okS w b (shorts f) n) {s : ByteArray} (hs : okS s) (h0 : 0 ≤ f s) (c : Bool) :
    (Instr.lookup 75 (.map (some b)) (.string s) c).run Ybad.prog w = .ok (if c then .tuple #[.agg #[.int .i64 (f s), .bool false], .bool (decide (0 < f s))] else .agg #[.int .i64 (f s), .bool false]) w := by
  rw [MapFn.run_look enc9 h Ybad.underlying75 (zero59 w) hs c]
  unfold shorts
  by_cases hf : 0 < f s
  · simp [hf]
  · have : f s = 0 := by omega
    simp [this]

def setSh (p : Pl) (s : ByteArray) (a : Int) : Pl :=
  { p with sh := updI p.sh s a, tot := p.tot + (a - p.sh s), ns := if 0 < a then (if 0 < p.sh s then p.ns else p.ns + 1) else (if 0 < p.sh s then p.ns - 1 else p.ns) }

/-- The book behind the store of the shortfall. -/
theorem Book.tot {w : World} {B : Nat} {p : Pl} (h : Book w B p) (x : Int) : Book (w.setCell ⟨B + 7, 8, none⟩ (.int .i64 x)) B { p with tot := x } := by
  have t := turn_setCell w (B + 7) 8 (.int .i64 x)
  have f := t.frame (B := B) (by omega) (by omega)
  obtain ⟨k1, k2, ⟨du, k3⟩, ⟨cl, k4, k5⟩, k6, k7⟩ := h
  exact ⟨block_set k1 8 _, k2.kept (t.block _ (by omega)), ⟨_, k3.kept (t.block _ (by omega))⟩, ⟨cl, k4.kept (t.block _ (by omega)), claims_kept (p := p) k5 f⟩, k6.kept (t.block _ (by omega)), k7.kept (t.block _ (by omega))⟩

theorem Book.drew {w : World} {B : Nat} {p : Pl} (h : Book w B p) : Book w.drew B p := h

set_option maxHeartbeats 1000000 in
theorem setShort_any (B : Nat) (p : Pl) (s : ByteArray) (a : Int) (hs : okS s) (h0 : 0 ≤ a) (h1 : a ≤ 65535) (s0 : 0 ≤ p.sh s) (s1 : p.sh s ≤ 65535) (t0 : -1000000000000 ≤ p.tot) (t1 : p.tot ≤ 1000000000000) (w : World) (h : Book w B p) :
    Calls Ybad.prog 13 #[.pointer (some ⟨B + 7, 0, none⟩), .string s, .agg #[.int .i64 a, .bool false]] w fun e w' => e = .returned (.tuple #[]) ∧ Book w' B (setSh p s a) ∧ Frame B w w' := by
  have hl := h.lt
  obtain ⟨wa, hwa⟩ : ∃ wa, wa = w.alloc (.cells #[.int .i64 a, .bool false] 59) := ⟨_, rfl⟩
  have hba : Below w.heap.size w wa := by rw [hwa]; exact (Below.refl _ _).alloc (Nat.le_refl _) _
  have HBa := hid (h.kept hba)
  have Hba := hid hba
  obtain ⟨k1, k2, ⟨du, k3⟩, ⟨cl, k4, k5⟩, k6, k7⟩ := h.kept hba
  have c8 : wa.cell? ⟨B + 7, 8, none⟩ = some (.int .i64 p.tot) := block_cell k1 8
  have c7 : wa.cell? ⟨B + 7, 7, none⟩ = some (.map (some (B + 5))) := block_cell k1 7
  have f8 : wa.frozen? ⟨B + 7, 8, none⟩ = false := block_frozen k1 8
  have b0 : wa.cell? ⟨w.heap.size, 0, none⟩ = some (.int .i64 a) := by rw [hwa]; simp [go_sem]
  have b1 : wa.cell? ⟨w.heap.size, 1, none⟩ = some (.bool false) := by rw [hwa]; simp [go_sem]
  have lk1 : (Instr.lookup 75 (.map (some (B + 5))) (.string s) false).run Ybad.prog wa.drew = .ok (.agg #[.int .i64 (p.sh s), .bool false]) wa.drew := by
    have := look_short (w := wa.drew) (k6.kept rfl) hs s0 false
    simpa using this
  have Hwa := hid hwa
  have fl := fld59
  have ne1 : ¬ w.heap.size = B + 7 := by omega
  have ne2 : ¬ B + 7 = w.heap.size := by omega
  clear h hba k1 k2 k3 k4 k5 k6 k7 hwa
  go_enter Ybad.func13, Ybad.ntmps13
  go_wp2_with fail
  rw [← Hwa.out]
  go_region
  obtain ⟨wc, hwc⟩ : ∃ wc, wc = (wa.setCell ⟨B + 7, 8, none⟩ (.int .i64 (p.tot + (a - p.sh s)))).drew := ⟨_, rfl⟩
  have hBc : Book wc B { p with tot := p.tot + (a - p.sh s) } := by rw [hwc]; exact (HBa.out.tot _).drew
  have hFc : Frame B w wc := by rw [hwc]; exact ((Frame.of_below Hba.out).setCell (by show B ≤ B + 7; omega) (by show B + 7 < B + 8; omega) _).drew
  have d0 : wc.cell? ⟨w.heap.size, 0, none⟩ = some (.int .i64 a) := by rw [hwc]; exact (turn_setCell wa (B + 7) 8 _).cell b0 (by show w.heap.size ≠ B + 7; omega)
  have d1 : wc.cell? ⟨w.heap.size, 1, none⟩ = some (.bool false) := by rw [hwc]; exact (turn_setCell wa (B + 7) 8 _).cell b1 (by show w.heap.size ≠ B + 7; omega)
  rw [← hwc]
  obtain ⟨k1, k2, ⟨du, k3⟩, ⟨cl, k4, k5⟩, k6, k7⟩ := hBc
  have d7 : wc.cell? ⟨B + 7, 7, none⟩ = some (.map (some (B + 5))) := block_cell k1 7
  clear hwc c8 c7 f8 b0 b1 lk1 Hwa HBa Hba
  by_cases ha : 0 < a
  · obtain ⟨w1, r1, m1, t1'⟩ := put_w k6 Ybad.underlying75 hs (.agg #[.int .i64 a, .bool false])
    have e1 : (Instr.mapUpdate 75 (.map (some (B + 5))) (.string s) (.agg #[.int .i64 a, .bool false])).run Ybad.prog wc.drew = .ok () w1.drew := r1 1
    have f1 := t1'.frame (B := B) (by omega) (by omega)
    have Hf := hid (hFc.trans f1.drew)
    have HB := hid (show Book w1.drew B (setSh p s a) from by
      refine ⟨by show w1.heap[B + 7]? = _; rw [t1'.block _ (by omega)]; exact k1, k2.kept (t1'.block _ (by omega)), ⟨_, k3.kept (t1'.block _ (by omega))⟩, ⟨cl, k4.kept (t1'.block _ (by omega)), claims_kept (p := p) k5 f1.drew⟩, ?_, k7.kept (t1'.block _ (by omega))⟩
      have := (m1.congr (f' := shorts (updI p.sh s a)) (fun x => by rw [shorts_upd, if_pos ha])).kept (w' := w1.drew) rfl
      simp only [setSh, if_pos ha]
      have e : (shorts p.sh s).isSome = decide (0 < p.sh s) := by unfold shorts; split <;> simp [*]
      simpa [e] using this)
    clear r1 m1 k1 k2 k3 k4 k5 k6 k7 f1 t1' hFc
    go_wp2_with fail
    go_region
    go_wp2_with fail
    go_end0
    exact ⟨rfl, HB.out, Hf.out⟩
  · obtain ⟨w1, r1, m1, t1'⟩ := del_w k6 Ybad.underlying75 hs
    have e1 : ∀ ty, (Builtin.delete_ #[75, 9] ty #[.map (some (B + 5)), .string s]).run Ybad.prog wc = .ok (.tuple #[]) w1 := fun ty => r1 0 ty
    have f1 := t1'.frame (B := B) (by omega) (by omega)
    have Hf := hid (hFc.trans f1)
    have HB := hid (show Book w1 B (setSh p s a) from by
      refine ⟨by rw [t1'.block _ (by omega)]; exact k1, k2.kept (t1'.block _ (by omega)), ⟨_, k3.kept (t1'.block _ (by omega))⟩, ⟨cl, k4.kept (t1'.block _ (by omega)), claims_kept (p := p) k5 f1⟩, ?_, k7.kept (t1'.block _ (by omega))⟩
      have := m1.congr (f' := shorts (updI p.sh s a)) (fun x => by rw [shorts_upd, if_neg ha])
      simp only [setSh, if_neg ha]
      have e : (shorts p.sh s).isSome = decide (0 < p.sh s) := by unfold shorts; split <;> simp [*]
      simpa [e] using this)
    clear r1 m1 k1 k2 k3 k4 k5 k6 k7 f1 t1' hFc
    go_wp2_with (at_delete; refine MapFn.wpList_del_fn _ rfl _ _ 75 9 rfl (.map (some (B + 5))) (.string s) rfl rfl w1 e1 rfl ?_)
    go_end0
    exact ⟨rfl, HB.out, Hf.out⟩
end Go.Proofs.YbulkcakaDoor.CF
