import Derived.Test.YbulkcakaDoorCFAux
namespace Go.Proofs.YbulkcakaDoor.CF
open Go.RowKit Ext
set_option maxRecDepth 10000
set_option linter.unusedSimpArgs false
set_option linter.unusedVariables false

set_option maxHeartbeats 1000000 in
theorem law_long (a0 : Option Addr) (n c : Nat) (pk : Int) (tg : ByteArray) (w : World) (hn : 512 < n) (hm : n ≤ maxLen) :
    Calls Ybad.prog 5 #[.slice a0 n c, .int .u8 pk, .string tg] w fun e w' => e = .returned (.bool true) ∧ Below w.heap.size w w' := by
  go_enter Ybad.func5, Ybad.ntmps5
  go_wp2_with fail
  go_ret
  exact ⟨rfl, Below.refl _ _⟩

set_option maxHeartbeats 4000000 in
theorem law_zero (a : Addr) (a0 : Option Addr) (c : Nat) (pk : Int) (t : ByteArray) (w : World)
    (p0 : 0 ≤ pk) (p1 : pk ≤ 255) (hts : okS t) (hz : w.cell? ⟨4, 0, none⟩ = some (.pointer (some a))) (h4 : 4 < w.heap.size) :
    Calls Ybad.prog 5 #[.slice a0 0 c, .int .u8 pk, .string t] w fun e w' => e = .returned (.bool true) ∧ Below w.heap.size w w' := by
  go_enter Ybad.func5, Ybad.ntmps5
  go_wp2_with fail
  refine (book_any w).mono ?_
  rintro e wr ⟨rfl, hB0, hBl0⟩
  have HBk := hid hB0
  have HBl := hid hBl0
  have hl := hB0.lt
  clear hB0 hBl0
  go_wp2_with fail
  refine wp_loop_rounds 1 ?_
  rw [rounds_succ]
  have hle : ∀ ty, (Builtin.len_ #[72] ty #[.map (some (w.heap.size + 3))]).run Ybad.prog wr = .ok (.int .i64 0) wr := fun ty => by
    obtain ⟨k1, k2, ⟨du, k3⟩, _⟩ := HBk.out
    exact MapFn.run_len k3 Ybad.underlying72
  have c4 : wr.cell? ⟨w.heap.size + 7, 4, none⟩ = some (.map (some (w.heap.size + 3))) := block_cell HBk.out.1 4
  have hzr := keepCell HBl.out hz h4
  go_wp2_with fail
  refine (dropRequest_any a w.heap.size pl0 t hts (Int.le_refl 0) (by show (0:Int) ≤ 65535; decide) (by show -1000000000000 ≤ (0:Int); decide) (by show (0:Int) ≤ 1000000000000; decide) wr HBk.out hzr h4).mono ?_
  rintro e w5 ⟨rfl, b5, f5⟩
  have B5 := hid b5
  have L5 := hid (HBl.out.trans (f5.below (by omega)))
  clear b5 f5 HBk HBl hle c4 hzr
  have q2 : w5.cell? ⟨w.heap.size + 7, 2, none⟩ = some (.map (some (w.heap.size + 2))) := block_cell B5.out.1 2
  have q12 : w5.cell? ⟨w.heap.size + 7, 12, none⟩ = some (.map (some (w.heap.size + 6))) := block_cell B5.out.1 12
  have q6 : w5.cell? ⟨w.heap.size + 7, 6, none⟩ = some (.map (some (w.heap.size + 4))) := block_cell B5.out.1 6
  have q7 : w5.cell? ⟨w.heap.size + 7, 7, none⟩ = some (.map (some (w.heap.size + 5))) := block_cell B5.out.1 7
  have hl5 := B5.out.lt
  have dt := drop_t pl0 t
  have lr : (Instr.lookup 70 (.map (some (w.heap.size + 2))) (.string t) true).run Ybad.prog w5 = .ok (.tuple #[.int .i64 0, .bool false]) w5 := by
    obtain ⟨k1, k2, _⟩ := B5.out
    have := look_ints k2 hts
    rw [dt.1] at this; exact this
  have lf : (Instr.lookup 70 (.map (some (w.heap.size + 6))) (.string t) true).run Ybad.prog w5 = .ok (.tuple #[.int .i64 0, .bool false]) w5 := by
    obtain ⟨k1, k2, _, _, _, k7⟩ := B5.out
    have := look_ints k7 hts
    rw [dt.2.1] at this; exact this
  have ls : (Instr.lookup 75 (.map (some (w.heap.size + 5))) (.string t) true).run Ybad.prog w5 = .ok (.tuple #[.agg #[.int .i64 0, .bool false], .bool false]) w5 := by
    obtain ⟨k1, k2, _, _, k6, k7⟩ := B5.out
    have := look_short k6 hts (by rw [dt.2.2.1]; exact Int.le_refl _) true
    rw [dt.2.2.1] at this; exact this
  obtain ⟨vc, lc'⟩ := look_claim B5.out hts
  have lc : (Instr.lookup 74 (.map (some (w.heap.size + 4))) (.string t) true).run Ybad.prog w5 = .ok (.tuple #[vc, .bool false]) w5 := by
    have := lc' w5 rfl
    rw [dt.2.2.2] at this; exact this
  clear lc'
  go_wp2_with fail
  obtain ⟨W, hW⟩ : ∃ W, W = w5.alloc (.cells #[.int .i64 0, .bool false] 59) := ⟨_, rfl⟩
  rw [← hW]
  have hbW : Below w5.heap.size w5 W := by rw [hW]; exact (Below.refl _ _).alloc (Nat.le_refl _) _
  have BW := hid (B5.out.kept hbW)
  have LW := hid (L5.out.trans (hbW.mono (by omega)))
  clear hW hbW B5 L5 lr lf ls lc q2 q12 q6 q7 hl5
  refine (short_any w.heap.size _ t hts (by rw [dt.2.2.1]; exact Int.le_refl _) W BW.out).mono ?_
  rw [dt.2.2.1]
  rintro e w6 ⟨rfl, h6⟩
  obtain rfl : W = w6 := h6.symm
  clear dt
  have q4 : W.cell? ⟨w.heap.size + 7, 4, none⟩ = some (.map (some (w.heap.size + 3))) := block_cell BW.out.1 4
  have hle : ∀ ty, (Builtin.len_ #[72] ty #[.map (some (w.heap.size + 3))]).run Ybad.prog W = .ok (.int .i64 0) W := fun ty => by
    obtain ⟨k1, k2, ⟨du, k3⟩, _⟩ := BW.out
    exact MapFn.run_len k3 Ybad.underlying72
  have q2 : W.cell? ⟨w.heap.size + 7, 2, none⟩ = some (.map (some (w.heap.size + 2))) := block_cell BW.out.1 2
  have q12 : W.cell? ⟨w.heap.size + 7, 12, none⟩ = some (.map (some (w.heap.size + 6))) := block_cell BW.out.1 12
  have q6 : W.cell? ⟨w.heap.size + 7, 6, none⟩ = some (.map (some (w.heap.size + 4))) := block_cell BW.out.1 6
  have q7 : W.cell? ⟨w.heap.size + 7, 7, none⟩ = some (.map (some (w.heap.size + 5))) := block_cell BW.out.1 7
  have l0 : ∀ ty, (Builtin.len_ #[70] ty #[.map (some (w.heap.size + 2))]).run Ybad.prog W = .ok (.int .i64 0) W := fun ty => by
    obtain ⟨k1, k2, _⟩ := BW.out
    exact MapFn.run_len k2 Ybad.underlying70
  have l1 : ∀ ty, (Builtin.len_ #[70] ty #[.map (some (w.heap.size + 6))]).run Ybad.prog W = .ok (.int .i64 0) W := fun ty => by
    obtain ⟨k1, k2, _, _, _, k7⟩ := BW.out
    exact MapFn.run_len k7 Ybad.underlying70
  have l2 : ∀ ty, (Builtin.len_ #[74] ty #[.map (some (w.heap.size + 4))]).run Ybad.prog W = .ok (.int .i64 0) W := fun ty => by
    obtain ⟨k1, k2, _, ⟨cl, k4, _⟩, _, k7⟩ := BW.out
    exact MapFn.run_len k4 Ybad.underlying74
  have l3 : ∀ ty, (Builtin.len_ #[75] ty #[.map (some (w.heap.size + 5))]).run Ybad.prog W = .ok (.int .i64 0) W := fun ty => by
    obtain ⟨k1, k2, _, _, k6, k7⟩ := BW.out
    exact MapFn.run_len k6 Ybad.underlying75
  go_wp2_with fail
  refine wp_loop_rounds 1 ?_
  rw [rounds_succ]
  go_wp2_with fail
  have hsf := shortfall_any w.heap.size _ W BW.out
  have e1 : ((dropAll pl0 t).ns : Int) = 0 := rfl
  have e2 : (dropAll pl0 t).tot = 0 := rfl
  rw [e1, e2] at hsf
  refine hsf.mono ?_
  rintro e w9 ⟨rfl, hb9⟩
  have HB9 := hid (LW.out.trans (hb9.mono LW.out.size))
  clear hb9 q2 q12 q6 q7 l0 l1 l2 l3 hsf
  go_wp2_with fail
  go_ret
  exact ⟨rfl, HB9.out⟩
end Go.Proofs.YbulkcakaDoor.CF
