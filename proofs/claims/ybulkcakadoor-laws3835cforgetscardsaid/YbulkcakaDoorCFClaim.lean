import Derived.Test.YbulkcakaDoorCFSets
namespace Go.Proofs.YbulkcakaDoor.CF
open Go.RowKit Ext
open MapFn (MapIs upd upd_same upd_other)
set_option maxRecDepth 10000
set_option linter.unusedSimpArgs false
set_option linter.unusedVariables false

theorem eql64 (w : World) (a : Addr) : (binOp .eql 64 (.agg #[.pointer none]) (.agg #[.pointer (some a)])).run Ybad.prog w = .ok (.bool false) w := by kernel_rfl

set_option maxHeartbeats 400000 in
theorem is4_any (a : Addr) (w : World) (hz : w.cell? ⟨4, 0, none⟩ = some (.pointer (some a))) (h4 : 4 < w.heap.size) :
    Calls Ybad.prog 38 #[.agg #[.int .u64 0, .int .u64 0, .pointer none]] w fun e w' => e = .returned (.bool false) ∧ Below w.heap.size w w' := by
  have he := fun w => eql64 w a
  have hz1 : ∀ o, (w.alloc o).cell? ⟨4, 0, none⟩ = some (.pointer (some a)) := fun o => by rw [World.cell?_alloc_lt _ _ _ h4]; exact hz
  go_enter Ybad.func38, Ybad.ntmps38
  go_wp2
  go_ret
  exact ⟨rfl, (Below.refl _ _).alloc (Nat.le_refl _) _⟩

set_option maxHeartbeats 400000 in
theorem slotOf_any (a : Addr) (p : Value) (w : World) (hz : w.cell? ⟨4, 0, none⟩ = some (.pointer (some a))) (h4 : 4 < w.heap.size) :
    Calls Ybad.prog 35 #[p, .agg #[.int .u64 0, .int .u64 0, .pointer none]] w fun e w' => e = .returned (.tuple #[.int .i64 0, .int .i64 0, .bool false]) ∧ Below w.heap.size w w' := by
  go_enter Ybad.func35, Ybad.ntmps35
  go_wp2_with fail
  refine (is4_any a _ (by rw [World.cell?_alloc_lt _ _ _ h4]; exact hz) (by simp; omega)).mono ?_
  rintro e w1 ⟨rfl, hb⟩
  go_wp2_with fail
  go_ret3
  exact ⟨rfl, ((Below.refl _ _).alloc (Nat.le_refl _) _).trans (hb.mono (by simp))⟩

set_option maxHeartbeats 400000 in
theorem release_any (a : Addr) (p : Value) (w : World) (hz : w.cell? ⟨4, 0, none⟩ = some (.pointer (some a))) (h4 : 4 < w.heap.size) :
    Calls Ybad.prog 29 #[p, .agg #[.int .u64 0, .int .u64 0, .pointer none]] w fun e w' => e = .returned (.tuple #[]) ∧ Below w.heap.size w w' := by
  go_enter Ybad.func29, Ybad.ntmps29
  go_wp2_with fail
  refine (slotOf_any a p _ (by rw [World.cell?_alloc_lt _ _ _ h4]; exact hz) (by simp; omega)).mono ?_
  rintro e w1 ⟨rfl, hb⟩
  go_wp2_with fail
  exact bodyPost_ret (results_none rfl _ _ _) rfl ⟨rfl, ((Below.refl _ _).alloc (Nat.le_refl _) _).trans (hb.mono (by simp))⟩

def dropCl (p : Pl) (s : ByteArray) : Pl := { p with cl := updI p.cl s false, nc := if p.cl s then p.nc - 1 else p.nc }

theorem zero67 (w : World) : (zeroValue 67).run Ybad.prog w = .ok (.slice none 0 0) w := by kernel_rfl

theorem del_claims {w w1 : World} {B n : Nat} {p : Pl} {s : ByteArray} (hs : okS s) (h : Book w B p) :
    ∃ w1, (∀ ty, (Builtin.delete_ #[74, 9] ty #[.map (some (B + 4)), .string s]).run Ybad.prog w = .ok (.tuple #[]) w1) ∧ Book w1 B (dropCl p s) ∧ Frame B w w1 := by
  have hl := h.lt
  obtain ⟨k1, k2, ⟨du, k3⟩, ⟨cl, k4, k5⟩, k6, k7⟩ := h
  obtain ⟨w1, r1, m1, t1⟩ := del_w k4 Ybad.underlying74 hs
  have f1 := t1.frame (B := B) (by omega) (by omega)
  refine ⟨w1, fun ty => r1 0 ty, ⟨by rw [t1.block _ (by omega)]; exact k1, k2.kept (t1.block _ (by omega)), ⟨_, k3.kept (t1.block _ (by omega))⟩, ⟨upd cl s none, ?_, fun x => ?_⟩, k6.kept (t1.block _ (by omega)), k7.kept (t1.block _ (by omega))⟩, f1⟩
  · have e : (cl s).isSome = p.cl s := by
      cases hc : p.cl s
      · rw [(k5 s).1 hc]; rfl
      · obtain ⟨v, hv, _⟩ := (k5 s).2 hc; rw [hv]; rfl
    rw [e] at m1
    exact m1
  · show (updI p.cl s false x = false → _) ∧ (updI p.cl s false x = true → _)
    unfold updI upd
    by_cases hx : x = s
    · simp [hx]
    · simp only [hx, if_false]
      exact claims_kept k5 f1 x

set_option maxHeartbeats 1000000 in
theorem dropClaim_any (a : Addr) (B : Nat) (p : Pl) (s : ByteArray) (hs : okS s) (w : World) (h : Book w B p) (hz : w.cell? ⟨4, 0, none⟩ = some (.pointer (some a))) (h4 : 4 < B) :
    Calls Ybad.prog 20 #[.pointer (some ⟨B + 7, 0, none⟩), .string s] w fun e w' => e = .returned (.tuple #[]) ∧ Book w' B (dropCl p s) ∧ Frame B w w' := by
  have hl := h.lt
  have HBk := hid h
  obtain ⟨k1, k2, ⟨du, k3⟩, ⟨cl, k4, k5⟩, k6, k7⟩ := h
  have c6 : w.cell? ⟨B + 7, 6, none⟩ = some (.map (some (B + 4))) := block_cell k1 6
  have lk := MapFn.run_look enc9 k4 Ybad.underlying74 (zero67 w) hs false
  cases hc : p.cl s
  · rw [(k5 s).1 hc] at lk
    simp only [Option.getD_none, Bool.false_eq_true, if_false] at lk
    obtain ⟨w1, e1, b1, f1⟩ := del_claims (w1 := w) (n := 0) hs HBk.out
    have Hf := hid f1
    have HB := hid b1
    clear k1 k2 k3 k4 k5 k6 k7 f1 b1 hc
    go_enter Ybad.func20, Ybad.ntmps20
    go_wp2_with fail
    refine wp_loop_rounds 1 ?_
    rw [rounds_succ]
    go_wp2_with (at_delete; refine MapFn.wpList_del_fn _ rfl _ _ 74 9 rfl (.map (some (B + 4))) (.string s) rfl rfl w1 e1 rfl ?_)
    go_end0
    exact ⟨rfl, HB.out, Hf.out⟩
  · obtain ⟨v, hv, g, rfl, hg, hgb⟩ := (k5 s).2 hc
    rw [hv] at lk
    simp only [Option.getD_some, Bool.false_eq_true, if_false] at lk
    have g0 : w.cell? ⟨g, 0, none⟩ = some (.int .u64 0) := block_cell hgb 0
    have g1 : w.cell? ⟨g, 1, none⟩ = some (.int .u64 0) := block_cell hgb 1
    have g2 : w.cell? ⟨g, 2, none⟩ = some (.pointer none) := block_cell hgb 2
    have a0 : w.cell? ⟨B + 7, 0, none⟩ = some (.pointer (some ⟨B + 1, 0, none⟩)) := block_cell k1 0
    clear k1 k2 k3 k4 k5 k6 k7 hc hgb hv
    go_enter Ybad.func20, Ybad.ntmps20
    go_wp2_with fail
    refine wp_loop_rounds 2 ?_
    rw [rounds_succ]
    go_wp2_with fail
    obtain ⟨W, hW⟩ : ∃ W, W = w.alloc (.cells #[.int .u64 0, .int .u64 0, .pointer none] 66) := ⟨_, rfl⟩
    have hbW : Below w.heap.size w W := by subst hW; exact (Below.refl _ _).alloc (Nat.le_refl _) _
    have hsW : w.heap.size < W.heap.size := by subst hW; simp
    have d0 : W.cell? ⟨w.heap.size, 0, none⟩ = some (.int .u64 0) := by subst hW; exact World.cell?_alloc_new _ _ _ 0
    have d1 : W.cell? ⟨w.heap.size, 1, none⟩ = some (.int .u64 0) := by subst hW; exact World.cell?_alloc_new _ _ _ 1
    have d2 : W.cell? ⟨w.heap.size, 2, none⟩ = some (.pointer none) := by subst hW; exact World.cell?_alloc_new _ _ _ 2
    rw [← hW]
    clear hW
    have a0' := (hbW.cell (p := ⟨B + 7, 0, none⟩) (by omega)).trans a0
    have hz' := (hbW.cell (p := ⟨4, 0, none⟩) (by simp; omega)).trans hz
    have x0 : ∀ x : Later W.heap.size W, x.1.cell? ⟨B + 7, 0, none⟩ = some (.pointer (some ⟨B + 1, 0, none⟩)) := fun x => x.cell a0' (by simp; omega)
    have x1 : ∀ x : Later W.heap.size W, x.1.cell? ⟨w.heap.size, 0, none⟩ = some (.int .u64 0) := fun x => x.cell d0 (by simp; omega)
    have x2 : ∀ x : Later W.heap.size W, x.1.cell? ⟨w.heap.size, 1, none⟩ = some (.int .u64 0) := fun x => x.cell d1 (by simp; omega)
    have x3 : ∀ x : Later W.heap.size W, x.1.cell? ⟨w.heap.size, 2, none⟩ = some (.pointer none) := fun x => x.cell d2 (by simp; omega)
    have hA : Hid (∀ x : Later W.heap.size W, Calls Ybad.prog 29 #[.pointer (some ⟨B + 1, 0, none⟩), .agg #[.int .u64 0, .int .u64 0, .pointer none]] x.1 fun e w' => e = .returned (.tuple #[]) ∧ Below x.1.heap.size x.1 w') := fun x =>
      release_any a _ x.1 (x.cell hz' (by simp; omega)) (by have := x.2.size; omega)
    have hne : Nonempty (Later W.heap.size W) := ⟨⟨W, Below.refl _ _⟩⟩
    refine wp_region_later W.heap.size (by kernel_rfl) (by kernel_rfl) ?_
    repeat (go_big_quiet_step ((go_at_call 29; refine later_of (hA.out _) (Nat.le_refl _))))
    refine wpQuiet_nil ?_
    rintro w2 ⟨⟨w2', hb2⟩, hx⟩
    obtain rfl : w2 = w2' := hx
    have hbb : Below w.heap.size w w2 := hbW.trans (hb2.mono (by omega))
    have f0 : Frame B w w2 := Frame.of_below hbb
    have bk2 : Book w2 B p := HBk.out.kept hbb
    have c6' : w2.cell? ⟨B + 7, 6, none⟩ = some (.map (some (B + 4))) := block_cell bk2.1 6
    obtain ⟨w3, e1, b1, f1⟩ := del_claims (w1 := w) (n := 0) hs bk2
    have Hf := hid (f0.trans f1)
    have HB := hid b1
    clear x0 x1 x2 x3 hA hne bk2 f0 f1 b1 hbb hb2 hbW a0' hz' d0 d1 d2 lk g0 g1 g2 a0 c6
    go_wp2_with fail
    rw [rounds_succ]
    go_wp2_with (at_delete; refine MapFn.wpList_del_fn _ rfl _ _ 74 9 rfl (.map (some (B + 4))) (.string s) rfl rfl w3 e1 rfl ?_)
    go_end0
    exact ⟨rfl, HB.out, Hf.out⟩
end Go.Proofs.YbulkcakaDoor.CF
