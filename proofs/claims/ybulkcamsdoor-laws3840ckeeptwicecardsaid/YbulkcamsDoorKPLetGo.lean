import Derived.Test.YbulkcamsDoorKPState
import Derived.Deep.RegionWith
import Derived.Deep.RegionLaw
namespace Go.Proofs.YbulkcamsDoor.KP
open Go.RowKit Ext
open MapFn (MapIs upd upd_same upd_other)
set_option maxRecDepth 10000
set_option linter.unusedSimpArgs false
set_option linter.unusedVariables false

abbrev okS : ByteArray → Prop := fun s => s.size ≤ maxLen
abbrev okU : Int → Prop := fun z => (Lit.int .u32 z).wf = true
theorem enc9 : MapFn.KeyEnc Ybad.prog 9 Value.string okS := MapFn.string_enc Ybad.underlying9
theorem enc62 : MapFn.KeyEnc Ybad.prog 62 (Value.int .u32) okU := MapFn.int_enc Ybad.underlying62
theorem und24 : Ybad.prog.underlying 24 = some (.map 9 60) := Ybad.underlying24
theorem und60 : Ybad.prog.underlying 60 = some (.map 62 25) := Ybad.underlying60
abbrev MapS (w : World) (b : Nat) (f : ByteArray → Option Value) (n : Nat) : Prop := MapIs Value.string okS w b f n
abbrev MapU (w : World) (b : Nat) (f : Int → Option Value) (n : Nat) : Prop := MapIs (Value.int .u32) okU w b f n

theorem but_setBlock (w : World) (b : Nat) (o : Obj) : But (fun k => k = b) w (ChangeMaps.setBlock w b o) := ⟨rfl, rfl, rfl, by rw [MapFn.setBlock_size]; exact Nat.le_refl _, fun k _ hk => MapFn.setBlock_other _ _ _ hk⟩

theorem delS {w : World} {b n : Nat} {f : ByteArray → Option Value} (h : MapS w b f n) {s : ByteArray} (hs : okS s) :
    ∃ w1, (∀ q ty, (Builtin.delete_ #[24, 9] ty #[.map (some b), .string s]).run Ybad.prog (w.drewN q) = .ok (.tuple #[]) (w1.drewN q)) ∧ MapS w1 b (upd f s none) (if (f s).isSome then n - 1 else n) ∧ But (fun k => k = b) w w1 := by
  obtain ⟨o, h1, h2⟩ := MapFn.run_del (ty := 0) enc9 h und24 hs
  refine ⟨_, fun q ty => ?_, h2, but_setBlock _ _ _⟩
  rw [← h1 q]
  rfl

theorem delU {w : World} {b n : Nat} {f : Int → Option Value} (h : MapU w b f n) {s : Int} (hs : okU s) :
    ∃ w1, (∀ q ty, (Builtin.delete_ #[60, 62] ty #[.map (some b), .int .u32 s]).run Ybad.prog (w.drewN q) = .ok (.tuple #[]) (w1.drewN q)) ∧ MapU w1 b (upd f s none) (if (f s).isSome then n - 1 else n) ∧ But (fun k => k = b) w w1 := by
  obtain ⟨o, h1, h2⟩ := MapFn.run_del (ty := 0) enc62 h und60 hs
  refine ⟨_, fun q ty => ?_, h2, but_setBlock _ _ _⟩
  rw [← h1 q]
  rfl

theorem putS {w : World} {b n : Nat} {f : ByteArray → Option Value} (h : MapS w b f n) {s : ByteArray} (hs : okS s) (v : Value) :
    ∃ w1, (∀ q, (Instr.mapUpdate 24 (.map (some b)) (.string s) v).run Ybad.prog (w.drewN q) = .ok () (w1.drewN q)) ∧ MapS w1 b (upd f s (some v)) (if (f s).isSome then n else n + 1) ∧ But (fun k => k = b) w w1 := by
  obtain ⟨o, h1, h2⟩ := MapFn.run_put enc9 h und24 hs v
  exact ⟨_, h1, h2, but_setBlock _ _ _⟩

theorem putU {w : World} {b n : Nat} {f : Int → Option Value} (h : MapU w b f n) {s : Int} (hs : okU s) (v : Value) :
    ∃ w1, (∀ q, (Instr.mapUpdate 60 (.map (some b)) (.int .u32 s) v).run Ybad.prog (w.drewN q) = .ok () (w1.drewN q)) ∧ MapU w1 b (upd f s (some v)) (if (f s).isSome then n else n + 1) ∧ But (fun k => k = b) w w1 := by
  obtain ⟨o, h1, h2⟩ := MapFn.run_put enc62 h und60 hs v
  exact ⟨_, h1, h2, but_setBlock _ _ _⟩

theorem zero60 (w : World) : (zeroValue 60).run Ybad.prog w = .ok (.map none) w := by simp [go_sem]
theorem zero25 (w : World) : (zeroValue 25).run Ybad.prog w = .ok (.pointer none) w := by simp [go_sem]

theorem lookS {w : World} {b n : Nat} {f : ByteArray → Option Value} (h : MapS w b f n) {s : ByteArray} (hs : okS s) :
    (Instr.lookup 24 (.map (some b)) (.string s) false).run Ybad.prog w = .ok ((f s).getD (.map none)) w := by
  simpa using MapFn.run_look enc9 h und24 (zero60 w) hs false
theorem lookU {w : World} {b n : Nat} {f : Int → Option Value} (h : MapU w b f n) {s : Int} (hs : okU s) :
    (Instr.lookup 60 (.map (some b)) (.int .u32 s) true).run Ybad.prog w = .ok (.tuple #[(f s).getD (.pointer none), .bool (f s).isSome]) w := by
  simpa using MapFn.run_look enc62 h und60 (zero25 w) hs true
theorem map_drew {α : Type} [DecidableEq α] {enc : α → Value} {ok : α → Prop} {w : World} {b n : Nat} {f : α → Option Value} (h : MapIs enc ok w b f n) (q : Nat) : MapIs enc ok (w.drewN q) b f n := h

theorem assert70 (v : Value) (c : Bool) (w : World) : (Instr.typeAssert (.iface 70 v) 20 70 c).run Ybad.prog w = .ok (if c then .tuple #[v, .bool true] else v) w := by
  cases c <;> simp [Instr.typeAssert, run_underlying Ybad.underlying70, Result.andThen]

theorem _root_.Go.Proofs.YbulkcamsDoor.MapFn.MapIs.drew1 {α : Type} [DecidableEq α] {enc : α → Value} {ok : α → Prop} {w : World} {b n : Nat} {f : α → Option Value} (h : MapIs enc ok w b f n) : MapIs enc ok w.drew b f n := h

def one (mid : ByteArray) (I : Nat) : ByteArray → Option Value := fun s => if s = mid then some (.map (some I)) else none

/-- The maps: while an id stands in the index, the mid's map is in the outer one; then the outer one is empty. -/
def MapSt (w : World) (O I : Nat) (mid : ByteArray) (f : Int → Option Value) (cnt : Nat) : Prop :=
  (0 < cnt → MapS w O (one mid I) 1 ∧ MapU w I f cnt) ∧ (cnt = 0 → MapS w O (fun _ => none) 0)

theorem isMap {α : Type} [DecidableEq α] {enc : α → Value} {ok : α → Prop} {w : World} {b n : Nat} {f : α → Option Value} (h : MapIs enc ok w b f n) : ∃ es c, w.heap[b]? = some (.map es c) := by
  obtain ⟨es, clock, hb, _⟩ := h; exact ⟨es, clock, hb⟩

section
variable {w : World} {C O I : Nat} {mid : ByteArray} {el kr : Nat → Nat} {ka : Nat → Array Value} {ids : Nat → Int} {lo hi : Nat} {size d z : Int}

theorem fr_fin {w1 w2 : World} {rep : Value} {q : Nat → Prop} (h : LS w C rep el kr ka lo hi size) (k2 : But (fun k => k = C ∨ ∃ i, lo ≤ i ∧ i < hi ∧ k = el i) w w1) (f2 : But q w1 w2) (hq : ∀ k, q k → C < k ∧ ∃ es c, w1.heap[k]? = some (.map es c))
    {lo' : Nat} (h2 : LS w2 C rep el kr ka lo' hi size) (v : Value) : Fr C w (w2.setCell ⟨C, 6, none⟩ v).drew := by
  obtain ⟨_, _, h0, _⟩ := h.c
  have hl := h.lt_c
  refine ((Fr.of_but k2 (by omega) ?_).trans ((Fr.of_but f2 (by have := k2.size; omega) ?_).trans (Fr.of_but (p := fun k => k = C) ((But.refl (fun k => k = C) w2).set (b := C) rfl v) (by have := h2.lt_c; omega) ?_))).drew
  · rintro k (rfl | ⟨i, a, b, rfl⟩)
    · exact ⟨Nat.le_refl _, fun cs t fz e => .inl (by rw [h0] at e; cases e; rfl)⟩
    · exact ⟨Nat.le_of_lt (h.gt i a b), fun cs t fz e => .inr (by rw [h.e i a b] at e; cases e; rfl)⟩
  · intro k hk
    obtain ⟨a, es, c, b⟩ := hq k hk
    exact ⟨by omega, fun cs t fz e => by rw [b] at e; cases e⟩
  · rintro k rfl
    obtain ⟨_, _, h0, _⟩ := h2.c
    exact ⟨Nat.le_refl _, fun cs t fz e => .inl (by rw [h0] at e; cases e; rfl)⟩

theorem map_at_w1 {α : Type} [DecidableEq α] {enc : α → Value} {ok : α → Prop} {w1 : World} {rep : Value} {b n : Nat} {f : α → Option Value} (h : LS w C rep el kr ka lo hi size) (k2 : But (fun k => k = C ∨ ∃ i, lo ≤ i ∧ i < hi ∧ k = el i) w w1) (hm : MapIs enc ok w b f n) : MapIs enc ok w1 b f n := by
  obtain ⟨es, cl, hO⟩ := isMap hm
  refine hm.kept (k2.block b (block_lt hO) ?_)
  obtain ⟨_, _, h0, _⟩ := h.c
  rintro (e | ⟨i, a, b, e⟩)
  · exact ne_of_obj hO h0 (by simp) e
  · exact ne_of_obj hO (h.e i a b) (by simp) e

theorem kr_at_w1 {w1 : World} {rep : Value} {cs : Array Value} (h : LS w C rep el kr ka lo hi size) (hlt : lo < hi) (k2 : But (fun k => k = C ∨ ∃ i, lo ≤ i ∧ i < hi ∧ k = el i) w w1) (hk : w.heap[kr lo]? = some (.cells cs 72 (0, 0))) : w1.heap[kr lo]? = some (.cells cs 72 (0, 0)) := by
  refine k2.kept hk ?_
  rintro (e | ⟨i, a, b, e⟩)
  · exact h.kr_c (Nat.le_refl _) hlt e
  · exact h.kr_el (Nat.le_refl _) hlt a b e

theorem LS.maps {w2 : World} {rep : Value} {q : Nat → Prop} (h : LS w C rep el kr ka lo hi size) (f2 : But q w w2) (hq : ∀ k, q k → ∃ es c, w.heap[k]? = some (.map es c)) : LS w2 C rep el kr ka lo hi size := by
  obtain ⟨_, _, h0, _⟩ := h.c
  refine h.kept f2 (fun k => ?_) (fun i a b k => ?_) (fun i a b k => ?_)
  · obtain ⟨es, c, e⟩ := hq _ k; rw [h0] at e; cases e
  · obtain ⟨es, c, e⟩ := hq _ k; rw [h.e i a b] at e; cases e
  · obtain ⟨es, c, e⟩ := hq _ k; rw [h.k i a b] at e; cases e

theorem But.cells {w2 : World} {q : Nat → Prop} (f2 : But q w w2) (hq : ∀ k, q k → ∃ es c, w.heap[k]? = some (.map es c)) {b : Nat} {cs : Array Value} {t : TypeId} {fz : Nat × Nat} (h : w.heap[b]? = some (.cells cs t fz)) : w2.heap[b]? = some (.cells cs t fz) :=
  f2.kept h (fun k => by obtain ⟨es, c, e⟩ := hq _ k; rw [h] at e; cases e)

theorem set_map {α : Type} [DecidableEq α] {enc : α → Value} {ok : α → Prop} {w2 : World} {b n : Nat} {f : α → Option Value} (hm : MapIs enc ok w2 b f n) (hb : C < b) (v : Value) : MapIs enc ok (w2.setCell ⟨C, 6, none⟩ v).drew b f n :=
  hm.kept (set_other (by omega) rfl)

set_option maxHeartbeats 1000000 in
theorem letGo_dead (h : LS w C (.map (some O)) el kr ka lo hi size) (hlt : lo < hi) (hN : hi ≤ 100000) (hka : ka lo = krArr mid (ids lo) d z) (hS : okS mid) (hU : okU (ids lo)) (hm : MapS w O (fun _ => none) 0) (hC : C < O)
    (b0 : -9223372036854775808 ≤ size - z) (b1 : size - z ≤ 9223372036854775807) :
    Calls Ybad.prog 15 #[ptrV C 0, ptrV (el lo) 0] w fun e w' => e = .returned (.tuple #[]) ∧ LS w' C (.map (some O)) el kr ka (lo + 1) hi (size - z) ∧ MapS w' O (fun _ => none) 0 ∧ Fr C w w' := by
  have hK := h.k lo (Nat.le_refl _) hlt
  rw [hka] at hK
  have H := hid h
  have HM := hid hm
  have HK := hid hK
  clear h hm hK
  go_enter Ybad.func15, Ybad.ntmps15
  go_wp2_with fail
  refine (H.out.remove hlt hN).mono ?_
  rintro e w1 ⟨rfl, k1, k2⟩
  obtain ⟨nx, pv, k0, _⟩ := k1.c
  have hm1 := map_at_w1 H.out k2 HM.out
  have hkr := kr_at_w1 H.out hlt k2 HK.out
  have c0 : w1.cell? ⟨C, 0, none⟩ = some (.map (some O)) := block_cell k0 0
  have c6 : w1.cell? ⟨C, 6, none⟩ = some (.int .i64 size) := block_cell k0 6
  have fc : ∀ i, w1.frozen? ⟨C, i, none⟩ = false := block_frozen k0
  have r0 : w1.cell? ⟨kr lo, 0, none⟩ = some (.string mid) := block_cell hkr 0
  have r1 : w1.cell? ⟨kr lo, 1, none⟩ = some (.int .u32 (ids lo)) := block_cell hkr 1
  have r15 : w1.cell? ⟨kr lo, 15, none⟩ = some (.int .i64 z) := block_cell hkr 15
  have l1 : ∀ q, (Instr.lookup 24 (.map (some O)) (.string mid) false).run Ybad.prog (w1.drewN q) = .ok (.map none) (w1.drewN q) := fun q => by simpa using lookS (map_drew hm1 q) hS
  have ta := assert70 (ptrV (kr lo) 0) false w1
  simp only [Bool.false_eq_true, if_false] at ta
  have K1 := hid k1
  have K2 := hid k2
  have HM1 := hid hm1
  have HKR := hid hkr
  clear k1 k2 k0 hm1 hkr
  go_wp2_with fail
  go_quiet (fail)
  have ld : ∀ ty, (Builtin.len_ #[60] ty #[.map none]).run Ybad.prog (w1.drewN nq) = .ok (.int .i64 0) (w1.drewN nq) := fun ty => by simp [Builtin.len_, run_underlying und60, Result.andThen, goInt]
  obtain ⟨w2, r2, m2, f2⟩ := delS (s := mid) (map_drew HM1.out (nq + 1)) hS
  have r2' : ∀ ty, (Builtin.delete_ #[24, 9] ty #[.map (some O), .string mid]).run Ybad.prog (w1.drewN (nq + 1)) = .ok (.tuple #[]) w2 := fun ty => r2 0 ty
  have f2' : But (fun k => k = O) w1 w2 := ⟨f2.os, f2.tape, f2.output, f2.size, f2.block⟩
  have hq : ∀ k, k = O → ∃ es c, w1.heap[k]? = some (.map es c) := by rintro k rfl; exact isMap HM1.out
  have k2 : LS w2 C (.map (some O)) el kr ka (lo + 1) hi size := K1.out.maps f2' hq
  have d6 : w2.cell? ⟨C, 6, none⟩ = some (.int .i64 size) := by obtain ⟨nx, pv, k0, _⟩ := k2.c; exact block_cell k0 6
  have fc2 : ∀ i, w2.frozen? ⟨C, i, none⟩ = false := by obtain ⟨nx, pv, k0, _⟩ := k2.c; exact block_frozen k0
  have d15 : w2.cell? ⟨kr lo, 15, none⟩ = some (.int .i64 z) := block_cell (f2'.cells hq HKR.out) 15
  have HL := hid k2
  have HM2 := hid (show MapS w2 O (fun _ => none) 0 from m2.congr (fun s => by unfold upd; split <;> rfl))
  have HFr := hid (fr_fin H.out K2.out f2' (fun k hk => ⟨by omega, hq k hk⟩) k2 (.int .i64 (size - z)))
  clear l1 r2 m2 f2 k2 hq f2'
  go_wp2_with (at_delete; refine MapFn.wpList_del_fn _ rfl _ _ 60 62 rfl (.map none) (.int .u32 (ids lo)) rfl rfl (w1.drewN nq) (fun ty => MapFn.run_del_nil enc62 _ und60 hU) rfl ?_)
  clear ld
  go_region
  go_wp2_with fail
  go_region
  go_wp2_with fail
  go_end0
  exact ⟨rfl, (HL.out.resize _).drew, set_map HM2.out hC _, HFr.out⟩

set_option maxHeartbeats 1000000 in
theorem letGo_more {f : Int → Option Value} {n m : Nat} (h : LS w C (.map (some O)) el kr ka lo hi size) (hlt : lo < hi) (hN : hi ≤ 100000) (hka : ka lo = krArr mid (ids lo) d z) (hS : okS mid) (hU : okU (ids lo)) (hm : MapS w O (one mid I) 1) (hi1 : MapU w I f n) (hn : (if (f (ids lo)).isSome then n - 1 else n) = m) (hz : 0 < m) (hz2 : m ≤ 100000) (hC : C < O) (hI : C < I)
    (b0 : -9223372036854775808 ≤ size - z) (b1 : size - z ≤ 9223372036854775807) :
    Calls Ybad.prog 15 #[ptrV C 0, ptrV (el lo) 0] w fun e w' => e = .returned (.tuple #[]) ∧ LS w' C (.map (some O)) el kr ka (lo + 1) hi (size - z) ∧ MapS w' O (one mid I) 1 ∧ MapU w' I (upd f (ids lo) none) m ∧ Fr C w w' := by
  have hK := h.k lo (Nat.le_refl _) hlt
  rw [hka] at hK
  have H := hid h
  have HM := hid hm
  have HI := hid hi1
  have HK := hid hK
  have Hn := hid hn
  clear h hm hK hi1 hn
  go_enter Ybad.func15, Ybad.ntmps15
  go_wp2_with fail
  refine (H.out.remove hlt hN).mono ?_
  rintro e w1 ⟨rfl, k1, k2⟩
  obtain ⟨nx, pv, k0, _⟩ := k1.c
  have hm1 := map_at_w1 H.out k2 HM.out
  have hi1 := map_at_w1 H.out k2 HI.out
  have hkr := kr_at_w1 H.out hlt k2 HK.out
  have c0 : w1.cell? ⟨C, 0, none⟩ = some (.map (some O)) := block_cell k0 0
  have r0 : w1.cell? ⟨kr lo, 0, none⟩ = some (.string mid) := block_cell hkr 0
  have r1 : w1.cell? ⟨kr lo, 1, none⟩ = some (.int .u32 (ids lo)) := block_cell hkr 1
  have l1 : ∀ q, (Instr.lookup 24 (.map (some O)) (.string mid) false).run Ybad.prog (w1.drewN q) = .ok (.map (some I)) (w1.drewN q) := fun q => by simpa [one] using lookS (map_drew hm1 q) hS
  have ta := assert70 (ptrV (kr lo) 0) false w1
  simp only [Bool.false_eq_true, if_false] at ta
  have K1 := hid k1
  have K2 := hid k2
  have HM1 := hid hm1
  have HI1 := hid hi1
  have HKR := hid hkr
  have hOI : O ≠ I := by
    rintro rfl
    obtain ⟨es, cl, e1, e2, e3, e4, e5⟩ := hm1
    obtain ⟨es', cl', g1, g2, g3, g4, g5⟩ := hi1
    rw [e1] at g1; cases g1
    obtain ⟨x, hx, hk, _⟩ := e5 mid (.map (some O)) (by simp [one])
    obtain ⟨a, _, hk2, _⟩ := g4 x hx
    rw [hk] at hk2; cases hk2
  clear k1 k2 k0 hm1 hi1 hkr
  go_wp2_with fail
  go_quiet (fail)
  obtain ⟨w2, r2, m2, f2⟩ := delU (s := ids lo) (map_drew HI1.out nq) hU
  rw [Hn.out] at m2
  have r2' : ∀ ty, (Builtin.delete_ #[60, 62] ty #[.map (some I), .int .u32 (ids lo)]).run Ybad.prog (w1.drewN nq) = .ok (.tuple #[]) w2 := fun ty => r2 0 ty
  have f2' : But (fun k => k = I) w1 w2 := ⟨f2.os, f2.tape, f2.output, f2.size, f2.block⟩
  have hq : ∀ k, k = I → ∃ es c, w1.heap[k]? = some (.map es c) := by rintro k rfl; exact isMap HI1.out
  have k2 : LS w2 C (.map (some O)) el kr ka (lo + 1) hi size := K1.out.maps f2' hq
  have d0 : w2.cell? ⟨C, 0, none⟩ = some (.map (some O)) := by obtain ⟨nx, pv, k0, _⟩ := k2.c; exact block_cell k0 0
  have d6 : w2.cell? ⟨C, 6, none⟩ = some (.int .i64 size) := by obtain ⟨nx, pv, k0, _⟩ := k2.c; exact block_cell k0 6
  have fc2 : ∀ i, w2.frozen? ⟨C, i, none⟩ = false := by obtain ⟨nx, pv, k0, _⟩ := k2.c; exact block_frozen k0
  have kr2 := f2'.cells hq HKR.out
  have ld : ∀ ty, (Builtin.len_ #[60] ty #[.map (some I)]).run Ybad.prog w2 = .ok (.int .i64 m) w2 := fun ty => MapFn.run_len m2 und60
  have mo2 : MapS w2 O (one mid I) 1 := HM1.out.kept (f2'.block O (by obtain ⟨_, _, e⟩ := isMap HM1.out; exact block_lt e) hOI)
  have d15 : w2.cell? ⟨kr lo, 15, none⟩ = some (.int .i64 z) := block_cell kr2 15
  have HL := hid k2
  have HM2 := hid m2
  have HMO := hid mo2
  have hmz : ((m : Int) == 0) = false := by simp; omega
  have HFr := hid (fr_fin H.out K2.out f2' (fun k hk => ⟨by omega, hq k hk⟩) k2 (.int .i64 (size - z)))
  clear l1 r2 m2 f2 k2 hq f2' mo2 kr2
  go_wp2_with (at_delete; refine MapFn.wpList_del_fn _ rfl _ _ 60 62 rfl (.map (some I)) (.int .u32 (ids lo)) rfl rfl w2 r2' rfl ?_)
  clear ld r2'
  go_region
  go_wp2_with fail
  go_end0
  exact ⟨rfl, (HL.out.resize _).drew, set_map HMO.out hC _, set_map HM2.out hI _, HFr.out⟩

set_option maxHeartbeats 1000000 in
theorem letGo_last {f : Int → Option Value} {n m : Nat} (h : LS w C (.map (some O)) el kr ka lo hi size) (hlt : lo < hi) (hN : hi ≤ 100000) (hka : ka lo = krArr mid (ids lo) d z) (hS : okS mid) (hU : okU (ids lo)) (hm : MapS w O (one mid I) 1) (hi1 : MapU w I f n) (hn : (if (f (ids lo)).isSome then n - 1 else n) = m) (hz : m = 0) (hC : C < O) (hI : C < I)
    (b0 : -9223372036854775808 ≤ size - z) (b1 : size - z ≤ 9223372036854775807) :
    Calls Ybad.prog 15 #[ptrV C 0, ptrV (el lo) 0] w fun e w' => e = .returned (.tuple #[]) ∧ LS w' C (.map (some O)) el kr ka (lo + 1) hi (size - z) ∧ MapS w' O (fun _ => none) 0 ∧ Fr C w w' := by
  have hK := h.k lo (Nat.le_refl _) hlt
  rw [hka] at hK
  have H := hid h
  have HM := hid hm
  have HI := hid hi1
  have HK := hid hK
  have Hn := hid hn
  clear h hm hK hi1 hn
  go_enter Ybad.func15, Ybad.ntmps15
  go_wp2_with fail
  refine (H.out.remove hlt hN).mono ?_
  rintro e w1 ⟨rfl, k1, k2⟩
  obtain ⟨nx, pv, k0, _⟩ := k1.c
  have hm1 := map_at_w1 H.out k2 HM.out
  have hi1 := map_at_w1 H.out k2 HI.out
  have hkr := kr_at_w1 H.out hlt k2 HK.out
  have c0 : w1.cell? ⟨C, 0, none⟩ = some (.map (some O)) := block_cell k0 0
  have r0 : w1.cell? ⟨kr lo, 0, none⟩ = some (.string mid) := block_cell hkr 0
  have r1 : w1.cell? ⟨kr lo, 1, none⟩ = some (.int .u32 (ids lo)) := block_cell hkr 1
  have l1 : ∀ q, (Instr.lookup 24 (.map (some O)) (.string mid) false).run Ybad.prog (w1.drewN q) = .ok (.map (some I)) (w1.drewN q) := fun q => by simpa [one] using lookS (map_drew hm1 q) hS
  have ta := assert70 (ptrV (kr lo) 0) false w1
  simp only [Bool.false_eq_true, if_false] at ta
  have K1 := hid k1
  have K2 := hid k2
  have HM1 := hid hm1
  have HI1 := hid hi1
  have HKR := hid hkr
  have hOI : O ≠ I := by
    rintro rfl
    obtain ⟨es, cl, e1, e2, e3, e4, e5⟩ := hm1
    obtain ⟨es', cl', g1, g2, g3, g4, g5⟩ := hi1
    rw [e1] at g1; cases g1
    obtain ⟨x, hx, hk, _⟩ := e5 mid (.map (some O)) (by simp [one])
    obtain ⟨a, _, hk2, _⟩ := g4 x hx
    rw [hk] at hk2; cases hk2
  clear k1 k2 k0 hm1 hi1 hkr
  go_wp2_with fail
  go_quiet (fail)
  obtain ⟨w2, r2, m2, f2⟩ := delU (s := ids lo) (map_drew HI1.out nq) hU
  rw [Hn.out] at m2
  have r2' : ∀ ty, (Builtin.delete_ #[60, 62] ty #[.map (some I), .int .u32 (ids lo)]).run Ybad.prog (w1.drewN nq) = .ok (.tuple #[]) w2 := fun ty => r2 0 ty
  have f2' : But (fun k => k = I) w1 w2 := ⟨f2.os, f2.tape, f2.output, f2.size, f2.block⟩
  have hq : ∀ k, k = I → ∃ es c, w1.heap[k]? = some (.map es c) := by rintro k rfl; exact isMap HI1.out
  have k2 : LS w2 C (.map (some O)) el kr ka (lo + 1) hi size := K1.out.maps f2' hq
  have d0 : w2.cell? ⟨C, 0, none⟩ = some (.map (some O)) := by obtain ⟨nx, pv, k0, _⟩ := k2.c; exact block_cell k0 0
  have d6 : w2.cell? ⟨C, 6, none⟩ = some (.int .i64 size) := by obtain ⟨nx, pv, k0, _⟩ := k2.c; exact block_cell k0 6
  have fc2 : ∀ i, w2.frozen? ⟨C, i, none⟩ = false := by obtain ⟨nx, pv, k0, _⟩ := k2.c; exact block_frozen k0
  have kr2 := f2'.cells hq HKR.out
  have ld : ∀ ty, (Builtin.len_ #[60] ty #[.map (some I)]).run Ybad.prog w2 = .ok (.int .i64 m) w2 := fun ty => MapFn.run_len m2 und60
  have mo2 : MapS w2 O (one mid I) 1 := HM1.out.kept (f2'.block O (by obtain ⟨_, _, e⟩ := isMap HM1.out; exact block_lt e) hOI)
  subst hz
  have q0 : w2.cell? ⟨kr lo, 0, none⟩ = some (.string mid) := block_cell kr2 0
  obtain ⟨w3, r3, m3, f3⟩ := delS (s := mid) mo2.drew1 hS
  have r3' : ∀ ty, (Builtin.delete_ #[24, 9] ty #[.map (some O), .string mid]).run Ybad.prog w2.drew = .ok (.tuple #[]) w3 := fun ty => r3 0 ty
  have f3' : But (fun k => k = O) w2 w3 := ⟨f3.os, f3.tape, f3.output, f3.size, f3.block⟩
  have hq3 : ∀ k, k = O → ∃ es c, w2.heap[k]? = some (.map es c) := by rintro k rfl; exact isMap mo2
  have k3 : LS w3 C (.map (some O)) el kr ka (lo + 1) hi size := k2.maps f3' hq3
  have g6 : w3.cell? ⟨C, 6, none⟩ = some (.int .i64 size) := by obtain ⟨nx, pv, k0, _⟩ := k3.c; exact block_cell k0 6
  have fc3 : ∀ i, w3.frozen? ⟨C, i, none⟩ = false := by obtain ⟨nx, pv, k0, _⟩ := k3.c; exact block_frozen k0
  have d15 : w3.cell? ⟨kr lo, 15, none⟩ = some (.int .i64 z) := block_cell (f3'.cells hq3 kr2) 15
  have HL := hid k3
  have HM3 := hid (show MapS w3 O (fun _ => none) 0 from by
    have : (if (one mid I mid).isSome = true then 1 - 1 else 1) = 0 := by simp [one]
    rw [this] at m3
    exact m3.congr (fun s => by unfold upd one; split <;> rfl))
  have f23 : But (fun k => k = I ∨ k = O) w1 w3 := (f2'.mono fun k => .inl).trans (f3'.mono fun k => .inr)
  have HFr := hid (fr_fin H.out K2.out f23 (by
    rintro k (rfl | rfl)
    · exact ⟨hI, isMap HI1.out⟩
    · exact ⟨hC, isMap HM1.out⟩) k3 (.int .i64 (size - z)))
  clear l1 r2 m2 f2 k2 hq f2' mo2 r3 m3 f3 k3 hq3 f3' f23 kr2 d6 fc2
  go_wp2_with (at_delete; refine MapFn.wpList_del_fn _ rfl _ _ 60 62 rfl (.map (some I)) (.int .u32 (ids lo)) rfl rfl w2 r2' rfl ?_)
  clear ld r2'
  go_region
  go_wp2_with fail
  go_region
  go_wp2_with fail
  go_end0
  exact ⟨rfl, (HL.out.resize _).drew, set_map HM3.out hC _, HFr.out⟩


theorem letGo_any (h : LS w C (.map (some O)) el kr ka lo hi size) (hlt : lo < hi) (hN : hi ≤ 100000) (hka : ka lo = krArr mid (ids lo) d z) (hS : okS mid) (hU : okU (ids lo)) (hm : MapSt w O I mid (idx ids el lo hi) (cntTo ids hi - cntTo ids lo)) (hcn : cntTo ids hi ≤ 100000) (hC : C < O) (hI : C < I)
    (b0 : -9223372036854775808 ≤ size - z) (b1 : size - z ≤ 9223372036854775807) :
    Calls Ybad.prog 15 #[ptrV C 0, ptrV (el lo) 0] w fun e w' => e = .returned (.tuple #[]) ∧ LS w' C (.map (some O)) el kr ka (lo + 1) hi (size - z) ∧ MapSt w' O I mid (idx ids el (lo + 1) hi) (cntTo ids hi - cntTo ids (lo + 1)) ∧ Fr C w w' := by
  have hp := cnt_pop ids el hlt
  have hle := cnt_mono ids (show lo ≤ lo + 1 by omega)
  by_cases h0 : 0 < cntTo ids hi - cntTo ids lo
  · obtain ⟨m1, m2⟩ := hm.1 h0
    by_cases h1 : 0 < cntTo ids hi - cntTo ids (lo + 1)
    · refine (letGo_more h hlt hN hka hS hU m1 m2 hp h1 (by omega) hC hI b0 b1).mono ?_
      rintro e w' ⟨rfl, a, b, c, f⟩
      exact ⟨rfl, a, ⟨fun _ => ⟨b, c.congr (idx_pop ids el lo hi)⟩, fun e => by omega⟩, f⟩
    · refine (letGo_last h hlt hN hka hS hU m1 m2 hp (by omega) hC hI b0 b1).mono ?_
      rintro e w' ⟨rfl, a, b, f⟩
      exact ⟨rfl, a, ⟨fun e => by omega, fun _ => b⟩, f⟩
  · refine (letGo_dead h hlt hN hka hS hU (hm.2 (by omega)) hC b0 b1).mono ?_
    rintro e w' ⟨rfl, a, b, f⟩
    exact ⟨rfl, a, ⟨fun e => by omega, fun _ => b⟩, f⟩
end
end Go.Proofs.YbulkcamsDoor.KP
