import Derived.Test.YbulkcakaDoorCFClaim
namespace Go.Proofs.YbulkcakaDoor.CF
open Go.RowKit Ext
open MapFn (MapIs upd upd_same upd_other)
set_option maxRecDepth 10000
set_option linter.unusedSimpArgs false
set_option linter.unusedVariables false

def dropRq (p : Pl) (s : ByteArray) : Pl := { p with rq := updI p.rq s none, nr := if (p.rq s).isSome then p.nr - 1 else p.nr }
def dropFu (p : Pl) (s : ByteArray) : Pl := { p with fu := updI p.fu s none, nf := if (p.fu s).isSome then p.nf - 1 else p.nf }
def dropAll (p : Pl) (s : ByteArray) : Pl := setSh (dropCl (dropFu (dropRq p s) s) s) s 0

theorem del_rq {w : World} {B : Nat} {p : Pl} {s : ByteArray} (hs : okS s) (h : Book w B p) :
    ∃ w1, (∀ ty, (Builtin.delete_ #[70, 9] ty #[.map (some (B + 2)), .string s]).run Ybad.prog w = .ok (.tuple #[]) w1) ∧ Book w1 B (dropRq p s) ∧ Frame B w w1 := by
  have hl := h.lt
  obtain ⟨k1, k2, ⟨du, k3⟩, ⟨cl, k4, k5⟩, k6, k7⟩ := h
  obtain ⟨w1, r1, m1, t1⟩ := del_w k2 Ybad.underlying70 hs
  have f1 := t1.frame (B := B) (by omega) (by omega)
  exact ⟨w1, fun ty => r1 0 ty, ⟨by rw [t1.block _ (by omega)]; exact k1, (m1.congr (ints_upd p.rq s none)) |> (fun h => by simpa [ints, dropRq] using h), ⟨_, k3.kept (t1.block _ (by omega))⟩, ⟨cl, k4.kept (t1.block _ (by omega)), claims_kept (p := p) k5 f1⟩, k6.kept (t1.block _ (by omega)), k7.kept (t1.block _ (by omega))⟩, f1⟩

theorem del_fu {w : World} {B : Nat} {p : Pl} {s : ByteArray} (hs : okS s) (h : Book w B p) :
    ∃ w1, (∀ ty, (Builtin.delete_ #[70, 9] ty #[.map (some (B + 6)), .string s]).run Ybad.prog w = .ok (.tuple #[]) w1) ∧ Book w1 B (dropFu p s) ∧ Frame B w w1 := by
  have hl := h.lt
  obtain ⟨k1, k2, ⟨du, k3⟩, ⟨cl, k4, k5⟩, k6, k7⟩ := h
  obtain ⟨w1, r1, m1, t1⟩ := del_w k7 Ybad.underlying70 hs
  have f1 := t1.frame (B := B) (by omega) (by omega)
  exact ⟨w1, fun ty => r1 0 ty, ⟨by rw [t1.block _ (by omega)]; exact k1, k2.kept (t1.block _ (by omega)), ⟨_, k3.kept (t1.block _ (by omega))⟩, ⟨cl, k4.kept (t1.block _ (by omega)), claims_kept (p := p) k5 f1⟩, k6.kept (t1.block _ (by omega)), (m1.congr (ints_upd p.fu s none)) |> (fun h => by simpa [ints, dropFu] using h)⟩, f1⟩

set_option maxHeartbeats 1000000 in
theorem dropRequest_any (a : Addr) (B : Nat) (p : Pl) (s : ByteArray) (hs : okS s) (s0 : 0 ≤ p.sh s) (s1 : p.sh s ≤ 65535) (t0 : -1000000000000 ≤ p.tot) (t1 : p.tot ≤ 1000000000000) (w : World) (h : Book w B p) (hz : w.cell? ⟨4, 0, none⟩ = some (.pointer (some a))) (h4 : 4 < B) :
    Calls Ybad.prog 14 #[.pointer (some ⟨B + 7, 0, none⟩), .string s] w fun e w' => e = .returned (.tuple #[]) ∧ Book w' B (dropAll p s) ∧ Frame B w w' := by
  obtain ⟨w1, r1, b1, f1⟩ := del_rq hs h
  obtain ⟨w2, r2, b2, f2⟩ := del_fu hs b1
  have c2 : w.cell? ⟨B + 7, 2, none⟩ = some (.map (some (B + 2))) := block_cell h.1 2
  have c12 : w1.cell? ⟨B + 7, 12, none⟩ = some (.map (some (B + 6))) := block_cell b1.1 12
  have hz2 := (f1.trans f2).cell hz (.inl h4)
  have H0 := hid h
  have H2 := hid b2
  have F2 := hid (f1.trans f2)
  clear h b1 b2 f1 f2
  go_enter Ybad.func14, Ybad.ntmps14
  go_wp2_with (first
    | (at_delete; refine MapFn.wpList_del_fn _ rfl _ _ 70 9 rfl (.map (some (B + 2))) (.string s) rfl rfl w1 r1 rfl ?_)
    | (at_delete; refine MapFn.wpList_del_fn _ rfl _ _ 70 9 rfl (.map (some (B + 6))) (.string s) rfl rfl w2 r2 rfl ?_))
  refine (dropClaim_any a B _ s hs w2 H2.out hz2 h4).mono ?_
  rintro e w3 ⟨rfl, b3, f3⟩
  have H3 := hid b3
  have F3 := hid (F2.out.trans f3)
  clear b3 f3 r1 r2 H2 F2
  go_wp2_with fail
  refine (setShort_any B (dropCl (dropFu (dropRq p s) s) s) s 0 hs (by omega) (by omega) s0 s1 t0 t1 w3 H3.out).mono ?_
  rintro e w4 ⟨rfl, b4, f4⟩
  have H4 := hid b4
  have F4 := hid (F3.out.trans f4)
  clear b4 f4 H3 F3
  go_wp2_with fail
  go_end0
  exact ⟨rfl, H4.out, F4.out⟩

set_option maxHeartbeats 1000000 in
theorem short_any (B : Nat) (p : Pl) (s : ByteArray) (hs : okS s) (s0 : 0 ≤ p.sh s) (w : World) (h : Book w B p) :
    Calls Ybad.prog 15 #[.pointer (some ⟨B + 7, 0, none⟩), .string s] w fun e w' => e = .returned (.bool (decide (0 < p.sh s))) ∧ w' = w := by
  have c7 : w.cell? ⟨B + 7, 7, none⟩ = some (.map (some (B + 5))) := block_cell h.1 7
  obtain ⟨k1, k2, ⟨du, k3⟩, ⟨cl, k4, k5⟩, k6, k7⟩ := h
  have lk := look_short k6 hs s0 false
  simp only [Bool.false_eq_true, if_false] at lk
  have fl := fld59
  clear k1 k2 k3 k4 k5 k6 k7
  go_enter Ybad.func15, Ybad.ntmps15
  go_wp2_with fail
  go_ret
  exact ⟨by rfl, rfl⟩

set_option maxHeartbeats 1000000 in
theorem shortfall_any (B : Nat) (p : Pl) (w : World) (h : Book w B p) :
    Calls Ybad.prog 16 #[.pointer (some ⟨B + 7, 0, none⟩)] w fun e w' => e = .returned (.tuple #[.int .i64 p.ns, .int .i64 p.tot]) ∧ Below w.heap.size w w' := by
  have c7 : w.cell? ⟨B + 7, 7, none⟩ = some (.map (some (B + 5))) := block_cell h.1 7
  have c8 : w.cell? ⟨B + 7, 8, none⟩ = some (.int .i64 p.tot) := block_cell h.1 8
  obtain ⟨k1, k2, ⟨du, k3⟩, ⟨cl, k4, k5⟩, k6, k7⟩ := h
  have hne : Nonempty (Later w.heap.size w) := ⟨⟨w, Below.refl _ _⟩⟩
  have hs := block_lt k1
  have x7 : ∀ x : Later w.heap.size w, x.1.cell? ⟨B + 7, 7, none⟩ = some (.map (some (B + 5))) := fun x => x.cell c7 hs
  have x8 : ∀ x : Later w.heap.size w, x.1.cell? ⟨B + 7, 8, none⟩ = some (.int .i64 p.tot) := fun x => x.cell c8 hs
  have xl : ∀ (x : Later w.heap.size w) ty, (Builtin.len_ #[75] ty #[.map (some (B + 5))]).run Ybad.prog x.1 = .ok (.int .i64 p.ns) x.1 := fun x ty =>
    MapFn.run_len (k6.kept (x.2.block _ (by omega))) Ybad.underlying75
  clear k1 k2 k3 k4 k5 k6 k7
  go_enter Ybad.func16, Ybad.ntmps16
  go_wp2_with fail
  refine wp_region_later w.heap.size (by kernel_rfl) (by kernel_rfl) ?_
  repeat (go_big_quiet_step (fail))
  refine wpQuiet_nil ?_
  rintro w2 ⟨⟨w2', hb2⟩, hx⟩
  obtain rfl : w2 = w2' := hx
  go_wp2_with fail
  go_ret2
  exact ⟨rfl, hb2⟩
end Go.Proofs.YbulkcakaDoor.CF
