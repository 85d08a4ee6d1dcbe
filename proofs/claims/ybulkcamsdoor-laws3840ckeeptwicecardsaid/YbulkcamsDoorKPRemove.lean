import Derived.Test.YbulkcamsDoorKPList
import Derived.LaidEqlPtr
namespace Go.Proofs.YbulkcamsDoor.KP
open Go.RowKit Ext
set_option maxRecDepth 10000
set_option linter.unusedSimpArgs false
set_option linter.unusedVariables false

theorem But.drew {p : Nat → Prop} {w w' : World} (h : But p w w') : But p w w'.drew := ⟨h.os, h.tape, h.output, h.size, h.block⟩
theorem drew_at {w : World} {a : Nat} {x : Option Obj} (h : w.heap[a]? = x) : w.drew.heap[a]? = x := h

set_option maxHeartbeats 1000000 in
theorem remove_only (C E : Nat) (rep v : Value) (len size : Int) (h0 : 1 ≤ len) (h1 : len ≤ 100000) (w : World) (hCE : C ≠ E) (hc : IsC w C rep (ptrV E 0) (ptrV E 0) len size) (he : IsE w E (ptrV C 1) (ptrV C 1) (ptrV C 1) v) :
    Calls Ybad.prog 26 #[ptrV C 1, ptrV E 0] w fun e w' => e = .returned (.tuple #[]) ∧ IsC w' C rep (ptrV C 1) (ptrV C 1) (len - 1) size ∧ IsE w' E (.pointer none) (.pointer none) (.pointer none) v ∧ But (fun k => k = C ∨ k = E) w w' := by
  have c1 : w.cell? ⟨C, 1, none⟩ = some (ptrV E 0) := block_cell hc 1
  have c2 : w.cell? ⟨C, 2, none⟩ = some (ptrV E 0) := block_cell hc 2
  have c5 : w.cell? ⟨C, 5, none⟩ = some (.int .i64 len) := block_cell hc 5
  have e0 : w.cell? ⟨E, 0, none⟩ = some (ptrV C 1) := block_cell he 0
  have e1 : w.cell? ⟨E, 1, none⟩ = some (ptrV C 1) := block_cell he 1
  have e2 : w.cell? ⟨E, 2, none⟩ = some (ptrV C 1) := block_cell he 2
  have fc : ∀ i, w.frozen? ⟨C, i, none⟩ = false := block_frozen hc
  have fe : ∀ i, w.frozen? ⟨E, i, none⟩ = false := block_frozen he
  have hEC : E ≠ C := fun h => hCE h.symm
  have HC := hid hc
  have HE := hid he
  clear hc he
  go_enter Ybad.func26, Ybad.ntmps26
  go_wp2_with fail
  go_region
  go_wp2_with fail
  go_region
  go_wp2_with fail
  go_end0
  refine ⟨rfl, drew_at (drew_at (block_set (set_other hEC (set_other hEC (set_other hEC (block_set (block_set HC.out _ _) _ _)))) _ _)), ?_, ?_⟩
  · exact drew_at (drew_at (set_other hCE (block_set (block_set (block_set (set_other hCE (set_other hCE HE.out)) _ _) _ _) _ _)))
  · exact (((((((But.refl _ _).set (.inl rfl) _).set (.inl rfl) _).set (.inr rfl) _).set (.inr rfl) _).set (.inr rfl) _).set (.inl rfl) _).drew.drew

set_option maxHeartbeats 1000000 in
theorem remove_front (C E B : Nat) (rep v pv nb lb vb : Value) (len size : Int) (h0 : 1 ≤ len) (h1 : len ≤ 100000) (w : World) (hCE : C ≠ E) (hCB : C ≠ B) (hEB : E ≠ B) (hc : IsC w C rep (ptrV E 0) pv len size) (he : IsE w E (ptrV B 0) (ptrV C 1) (ptrV C 1) v) (hb : IsE w B nb (ptrV E 0) lb vb) :
    Calls Ybad.prog 26 #[ptrV C 1, ptrV E 0] w fun e w' => e = .returned (.tuple #[]) ∧ IsC w' C rep (ptrV B 0) pv (len - 1) size ∧ IsE w' E (.pointer none) (.pointer none) (.pointer none) v ∧ IsE w' B nb (ptrV C 1) lb vb ∧ But (fun k => k = C ∨ k = E ∨ k = B) w w' := by
  have c1 : w.cell? ⟨C, 1, none⟩ = some (ptrV E 0) := block_cell hc 1
  have c5 : w.cell? ⟨C, 5, none⟩ = some (.int .i64 len) := block_cell hc 5
  have e0 : w.cell? ⟨E, 0, none⟩ = some (ptrV B 0) := block_cell he 0
  have e1 : w.cell? ⟨E, 1, none⟩ = some (ptrV C 1) := block_cell he 1
  have e2 : w.cell? ⟨E, 2, none⟩ = some (ptrV C 1) := block_cell he 2
  have b1 : w.cell? ⟨B, 1, none⟩ = some (ptrV E 0) := block_cell hb 1
  have fc : ∀ i, w.frozen? ⟨C, i, none⟩ = false := block_frozen hc
  have fe : ∀ i, w.frozen? ⟨E, i, none⟩ = false := block_frozen he
  have fb : ∀ i, w.frozen? ⟨B, i, none⟩ = false := block_frozen hb
  have hEC : E ≠ C := fun h => hCE h.symm
  have hBC : B ≠ C := fun h => hCB h.symm
  have hBE : B ≠ E := fun h => hEB h.symm
  have HC := hid hc
  have HE := hid he
  have HB := hid hb
  clear hc he hb
  go_enter Ybad.func26, Ybad.ntmps26
  go_wp2_with fail
  go_region
  go_wp2_with fail
  go_region
  go_wp2_with fail
  go_end0
  refine ⟨rfl, drew_at (drew_at (block_set (set_other hEC (set_other hEC (set_other hEC (set_other hBC (block_set HC.out _ _))))) _ _)), ?_, ?_, ?_⟩
  · exact drew_at (drew_at (set_other hCE (block_set (block_set (block_set (set_other hBE (set_other hCE HE.out)) _ _) _ _) _ _)))
  · exact drew_at (drew_at (set_other hCB (set_other hEB (set_other hEB (set_other hEB (block_set (set_other hCB HB.out) _ _))))))
  · exact (((((((But.refl _ _).set (.inl rfl) _).set (.inr (.inr rfl)) _).set (.inr (.inl rfl)) _).set (.inr (.inl rfl)) _).set (.inr (.inl rfl)) _).set (.inl rfl) _).drew.drew

theorem run_neq_ptr_same {P : Program} {tp te : TypeId} {j : TypeInfo} (w : World) (a : Addr) (hp : P.underlying tp = some (.pointer te)) (hte : P.info? te = some j) :
    (binOp .neq tp (.pointer (some a)) (.pointer (some a))).run P w = .ok (.bool false) w := by
  have h : ∀ d : Nat, (Op.equalIn (d + 1) tp (.pointer (some a)) (.pointer (some a))).run P w = .ok true w := fun d => by
    simp [Op.equalIn, run_underlying hp, sizeOf, typeInfo, hte, run_sameAddr_same]
  simp only [binOp]
  simp [Op.equal, Op.maxDepth, h 9999]

theorem run_neq_ptr_other {P : Program} {tp te : TypeId} {j : TypeInfo} (w : World) {a b : Addr} {ca cb : Array Value} {ta tb : TypeId} (hp : P.underlying tp = some (.pointer te)) (hte : P.info? te = some j) (hsz : j.size ≠ 0)
    (hne : a ≠ b) (ha : w.heap[a.block]? = some (.cells ca ta (0, 0))) (hb : w.heap[b.block]? = some (.cells cb tb (0, 0))) :
    (binOp .neq tp (.pointer (some a)) (.pointer (some b))).run P w = .ok (.bool true) w := by
  have h : ∀ d : Nat, (Op.equalIn (d + 1) tp (.pointer (some a)) (.pointer (some b))).run P w = .ok false w := fun d => by
    simp [Op.equalIn, run_underlying hp, sizeOf, typeInfo, hte, hsz, run_sameAddr_other w hne ha hb]
  simp only [binOp]
  simp [Op.equal, Op.maxDepth, h 9999]

theorem und25 : Ybad.prog.underlying 25 = some (.pointer 28) := Ybad.underlying25
theorem und26 : Ybad.prog.underlying 26 = some (.pointer 30) := Ybad.underlying26
theorem info28 : ∃ j, Ybad.prog.info? 28 = some j ∧ j.size ≠ 0 := by
  have h : (match Ybad.prog.info? 28 with | some j => j.size != 0 | none => false) = true := by decide_cbv
  revert h; cases Ybad.prog.info? 28 with
  | none => simp
  | some j => intro h; exact ⟨j, rfl, by simpa using h⟩
theorem info30 : ∃ j, Ybad.prog.info? 30 = some j ∧ j.size ≠ 0 := by
  have h : (match Ybad.prog.info? 30 with | some j => j.size != 0 | none => false) = true := by decide_cbv
  revert h; cases Ybad.prog.info? 30 with
  | none => simp
  | some j => intro h; exact ⟨j, rfl, by simpa using h⟩
theorem eql26 (w : World) (a : Addr) : (binOp .eql 26 (.pointer (some a)) (.pointer (some a))).run Ybad.prog w = .ok (.bool true) w := by
  obtain ⟨j, hj, _⟩ := info30; exact run_eql_ptr_same w a und26 hj
theorem neq25_same (w : World) (a : Addr) : (binOp .neq 25 (.pointer (some a)) (.pointer (some a))).run Ybad.prog w = .ok (.bool false) w := by
  obtain ⟨j, hj, _⟩ := info28; exact run_neq_ptr_same w a und25 hj
theorem neq25_other {w : World} {a b : Addr} {ca cb : Array Value} {ta tb : TypeId} (hne : a ≠ b) (ha : w.heap[a.block]? = some (.cells ca ta (0, 0))) (hb : w.heap[b.block]? = some (.cells cb tb (0, 0))) : (binOp .neq 25 (.pointer (some a)) (.pointer (some b))).run Ybad.prog w = .ok (.bool true) w := by
  obtain ⟨j, hj, hs⟩ := info28; exact run_neq_ptr_other w und25 hj hs hne ha hb

set_option maxHeartbeats 1000000 in
theorem Remove_only (C E : Nat) (rep v : Value) (len size : Int) (h0 : 1 ≤ len) (h1 : len ≤ 100000) (w : World) (hCE : C ≠ E) (hc : IsC w C rep (ptrV E 0) (ptrV E 0) len size) (he : IsE w E (ptrV C 1) (ptrV C 1) (ptrV C 1) v) :
    Calls Ybad.prog 23 #[ptrV C 1, ptrV E 0] w fun e w' => e = .returned v ∧ IsC w' C rep (ptrV C 1) (ptrV C 1) (len - 1) size ∧ But (fun k => k = C ∨ k = E) w w' := by
  have e2 : w.cell? ⟨E, 2, none⟩ = some (ptrV C 1) := block_cell he 2
  have q := fun a => eql26 w a
  have HC := hid hc
  have HE := hid he
  clear hc he
  go_enter Ybad.func23, Ybad.ntmps23
  go_wp2_with fail
  refine (remove_only C E rep v len size h0 h1 w hCE HC.out HE.out).mono ?_
  rintro e w1 ⟨rfl, k1, k2, k3⟩
  have e3 : w1.cell? ⟨E, 3, none⟩ = some v := block_cell k2 3
  have K1 := hid k1
  have K3 := hid k3
  clear k1 k2 k3
  go_wp2_with fail
  go_ret
  exact ⟨rfl, K1.out, K3.out⟩

set_option maxHeartbeats 1000000 in
theorem Remove_front (C E B : Nat) (rep v pv nb lb vb : Value) (len size : Int) (h0 : 1 ≤ len) (h1 : len ≤ 100000) (w : World) (hCE : C ≠ E) (hCB : C ≠ B) (hEB : E ≠ B) (hc : IsC w C rep (ptrV E 0) pv len size) (he : IsE w E (ptrV B 0) (ptrV C 1) (ptrV C 1) v) (hb : IsE w B nb (ptrV E 0) lb vb) :
    Calls Ybad.prog 23 #[ptrV C 1, ptrV E 0] w fun e w' => e = .returned v ∧ IsC w' C rep (ptrV B 0) pv (len - 1) size ∧ IsE w' B nb (ptrV C 1) lb vb ∧ But (fun k => k = C ∨ k = E ∨ k = B) w w' := by
  have e2 : w.cell? ⟨E, 2, none⟩ = some (ptrV C 1) := block_cell he 2
  have q := fun a => eql26 w a
  have HC := hid hc
  have HE := hid he
  have HB := hid hb
  clear hc he hb
  go_enter Ybad.func23, Ybad.ntmps23
  go_wp2_with fail
  refine (remove_front C E B rep v pv nb lb vb len size h0 h1 w hCE hCB hEB HC.out HE.out HB.out).mono ?_
  rintro e w1 ⟨rfl, k1, k2, k4, k3⟩
  have e3 : w1.cell? ⟨E, 3, none⟩ = some v := block_cell k2 3
  have K1 := hid k1
  have K4 := hid k4
  have K3 := hid k3
  clear k1 k2 k3 k4
  go_wp2_with fail
  go_ret
  exact ⟨rfl, K1.out, K4.out, K3.out⟩

set_option maxHeartbeats 1000000 in
theorem Front_zero (C : Nat) (rep nx pv : Value) (size : Int) (w : World) (hc : IsC w C rep nx pv 0 size) :
    Calls Ybad.prog 16 #[ptrV C 1] w fun e w' => e = .returned (.pointer none) ∧ w' = w := by
  have c5 : w.cell? ⟨C, 5, none⟩ = some (.int .i64 0) := block_cell hc 5
  clear hc
  go_enter Ybad.func16, Ybad.ntmps16
  go_wp2_with fail
  go_ret
  exact ⟨rfl, rfl⟩

set_option maxHeartbeats 1000000 in
theorem Front_more (C E : Nat) (rep pv : Value) (len size : Int) (h0 : 1 ≤ len) (h1 : len ≤ 100000) (w : World) (hc : IsC w C rep (ptrV E 0) pv len size) :
    Calls Ybad.prog 16 #[ptrV C 1] w fun e w' => e = .returned (ptrV E 0) ∧ w' = w := by
  have c5 : w.cell? ⟨C, 5, none⟩ = some (.int .i64 len) := block_cell hc 5
  have c1 : w.cell? ⟨C, 1, none⟩ = some (ptrV E 0) := block_cell hc 1
  have hz : (len == 0) = false := by simp; omega
  clear hc
  go_enter Ybad.func16, Ybad.ntmps16
  go_wp2_with fail
  go_ret
  exact ⟨rfl, rfl⟩

set_option maxHeartbeats 1000000 in
theorem Next_end (C E : Nat) (pv v : Value) (w : World) (he : IsE w E (ptrV C 1) pv (ptrV C 1) v) :
    Calls Ybad.prog 17 #[ptrV E 0] w fun e w' => e = .returned (.pointer none) ∧ w' = w := by
  have e0 : w.cell? ⟨E, 0, none⟩ = some (ptrV C 1) := block_cell he 0
  have e2 : w.cell? ⟨E, 2, none⟩ = some (ptrV C 1) := block_cell he 2
  have q := fun a => neq25_same w a
  clear he
  go_enter Ybad.func17, Ybad.ntmps17
  go_wp2_with fail
  go_ret
  exact ⟨rfl, rfl⟩

set_option maxHeartbeats 1000000 in
theorem Next_more (C E B : Nat) (pv v : Value) (o1 o2 : Array Value) (t1 t2 : TypeId) (w : World) (he : IsE w E (ptrV B 0) pv (ptrV C 1) v) (hB : w.heap[B]? = some (.cells o1 t1 (0, 0))) (hC : w.heap[C]? = some (.cells o2 t2 (0, 0))) :
    Calls Ybad.prog 17 #[ptrV E 0] w fun e w' => e = .returned (ptrV B 0) ∧ w' = w := by
  have e0 : w.cell? ⟨E, 0, none⟩ = some (ptrV B 0) := block_cell he 0
  have e2 : w.cell? ⟨E, 2, none⟩ = some (ptrV C 1) := block_cell he 2
  have q : (binOp .neq 25 (ptrV B 0) (ptrV C 1)).run Ybad.prog w = .ok (.bool true) w := neq25_other (by simp) hB hC
  clear he hB hC
  go_enter Ybad.func17, Ybad.ntmps17
  go_wp2_with fail
  go_ret
  exact ⟨rfl, rfl⟩

set_option maxHeartbeats 1000000 in
theorem Len_is (C : Nat) (rep nx pv : Value) (len size : Int) (w : World) (hc : IsC w C rep nx pv len size) :
    Calls Ybad.prog 8 #[ptrV C 1] w fun e w' => e = .returned (.int .i64 len) ∧ w' = w := by
  have c5 : w.cell? ⟨C, 5, none⟩ = some (.int .i64 len) := block_cell hc 5
  clear hc
  go_enter Ybad.func8, Ybad.ntmps8
  go_wp2_with fail
  go_ret
  exact ⟨rfl, rfl⟩

end Go.Proofs.YbulkcamsDoor.KP
