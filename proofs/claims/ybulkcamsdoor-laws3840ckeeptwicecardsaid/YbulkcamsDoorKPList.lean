import Derived.Test.YbulkcamsDoorRows
import Derived.Test.YbulkcamsDoorMapFn
import Derived.Test.YbulkcamsDoorExt
import Derived.WalkKit
import Derived.WalkSpells
import Derived.WalkLawsBesides
import Derived.BigQuiet
namespace Go.Proofs.YbulkcamsDoor.KP
open Go.RowKit Ext
set_option maxRecDepth 10000
set_option linter.unusedSimpArgs false
set_option linter.unusedVariables false

theorem block_cell {w : World} {a : Nat} {cs : Array Value} {t : TypeId} {fz : Nat × Nat} (h : w.heap[a]? = some (.cells cs t fz)) (i : Nat) : w.cell? ⟨a, i, none⟩ = cs[i]? := by simp [World.cell?, h]
theorem block_frozen {w : World} {a : Nat} {cs : Array Value} {t : TypeId} (h : w.heap[a]? = some (.cells cs t (0, 0))) (i : Nat) : w.frozen? ⟨a, i, none⟩ = false := by simp [World.frozen?, h]
theorem block_set {w : World} {a : Nat} {cs : Array Value} {t : TypeId} {fz : Nat × Nat} (h : w.heap[a]? = some (.cells cs t fz)) (i : Nat) (v : Value) : (w.setCell ⟨a, i, none⟩ v).heap[a]? = some (.cells (cs.setIfInBounds i v) t fz) := by
  simp [World.setCell, Array.getElem?_modify, h]
theorem block_lt {w : World} {a : Nat} {o : Obj} (h : w.heap[a]? = some o) : a < w.heap.size := (Array.getElem?_eq_some_iff.1 h).1
theorem alloc_at (w : World) (o : Obj) (b : Nat) (h : b = w.heap.size) : (w.alloc o).heap[b]? = some o := by subst h; exact heap_alloc_new w o

/-- The cache's block. -/
abbrev cacheArr (rep nx pv : Value) (len size : Int) : Array Value := #[rep, nx, pv, .pointer none, .nilIface, .int .i64 len, .int .i64 size]
abbrev elArr (nx pv ls v : Value) : Array Value := #[nx, pv, ls, v]
abbrev IsC (w : World) (C : Nat) (rep nx pv : Value) (len size : Int) : Prop := w.heap[C]? = some (.cells (cacheArr rep nx pv len size) 32 (0, 0))
abbrev IsE (w : World) (E : Nat) (nx pv ls v : Value) : Prop := w.heap[E]? = some (.cells (elArr nx pv ls v) 28 (0, 0))
abbrev ptrV (b o : Nat) : Value := .pointer (some ⟨b, o, none⟩)

/-- All blocks that were there are as they were, but those of p. -/
structure But (p : Nat → Prop) (w w' : World) : Prop where
  os : w'.os = w.os
  tape : w'.tape = w.tape
  output : w'.output = w.output
  size : w.heap.size ≤ w'.heap.size
  block : ∀ k, k < w.heap.size → ¬ p k → w'.heap[k]? = w.heap[k]?

theorem set_other {w : World} {a b i : Nat} {v : Value} {x : Option Obj} (h : b ≠ a) (hx : w.heap[a]? = x) : (w.setCell ⟨b, i, none⟩ v).heap[a]? = x := by rw [Below.heap_setCell _ _ _ _ (fun e => h e.symm)]; exact hx
theorem But.refl (p : Nat → Prop) (w : World) : But p w w := ⟨rfl, rfl, rfl, Nat.le_refl _, fun _ _ _ => rfl⟩
theorem But.set {p : Nat → Prop} {w w' : World} (h : But p w w') {b i : Nat} (hb : p b) (v : Value) : But p w (w'.setCell ⟨b, i, none⟩ v) :=
  ⟨h.os, h.tape, h.output, by simpa using h.size, fun k hk hp => set_other (fun e => hp (e ▸ hb)) (h.block k hk hp)⟩
theorem But.trans {p : Nat → Prop} {a b c : World} (h : But p a b) (k : But p b c) : But p a c :=
  ⟨k.os.trans h.os, k.tape.trans h.tape, k.output.trans h.output, Nat.le_trans h.size k.size, fun i hi hb => (k.block i (Nat.lt_of_lt_of_le hi h.size) hb).trans (h.block i hi hb)⟩
theorem But.mono {p q : Nat → Prop} {a b : World} (h : But p a b) (hpq : ∀ k, p k → q k) : But q a b := ⟨h.os, h.tape, h.output, h.size, fun k hk hq => h.block k hk (fun hp => hq (hpq k hp))⟩
theorem But.of_below {p : Nat → Prop} {w w' : World} (h : Below w.heap.size w w') : But p w w' := ⟨h.os, h.tape, h.output, h.size, fun k hk _ => h.block k hk⟩

set_option maxHeartbeats 1000000 in
theorem insert_first (C E : Nat) (rep v l0 : Value) (size : Int) (w : World) (hCE : C ≠ E) (hc : IsC w C rep (ptrV C 1) (ptrV C 1) 0 size) (he : IsE w E (.pointer none) (.pointer none) l0 v) :
    Calls Ybad.prog 25 #[ptrV C 1, ptrV E 0, ptrV C 1] w fun e w' => e = .returned (ptrV E 0) ∧ IsC w' C rep (ptrV E 0) (ptrV E 0) 1 size ∧ IsE w' E (ptrV C 1) (ptrV C 1) (ptrV C 1) v ∧ But (fun k => k = C ∨ k = E) w w' := by
  have c1 : w.cell? ⟨C, 1, none⟩ = some (ptrV C 1) := block_cell hc 1
  have c2 : w.cell? ⟨C, 2, none⟩ = some (ptrV C 1) := block_cell hc 2
  have c5 : w.cell? ⟨C, 5, none⟩ = some (.int .i64 0) := block_cell hc 5
  have e0 : w.cell? ⟨E, 0, none⟩ = some (.pointer none) := block_cell he 0
  have e1 : w.cell? ⟨E, 1, none⟩ = some (.pointer none) := block_cell he 1
  have e2 : w.cell? ⟨E, 2, none⟩ = some l0 := block_cell he 2
  have fc : ∀ i, w.frozen? ⟨C, i, none⟩ = false := block_frozen hc
  have fe : ∀ i, w.frozen? ⟨E, i, none⟩ = false := block_frozen he
  have hEC : E ≠ C := fun h => hCE h.symm
  have HC := hid hc
  have HE := hid he
  clear hc he
  go_enter Ybad.func25, Ybad.ntmps25
  go_wp2_with fail
  go_ret
  exact ⟨rfl, block_set (set_other hEC (block_set (block_set (set_other hEC (set_other hEC HC.out)) _ _) _ _)) _ _,
    set_other hCE (block_set (set_other hCE (set_other hCE (block_set (block_set HE.out _ _) _ _))) _ _),
    ((((((But.refl _ _).set (.inr rfl) _).set (.inr rfl) _).set (.inl rfl) _).set (.inl rfl) _).set (.inr rfl) _).set (.inl rfl) _⟩

set_option maxHeartbeats 1000000 in
theorem insert_more (C E A : Nat) (rep v l0 hd p ls va : Value) (len size : Int) (h0 : 0 ≤ len) (h1 : len ≤ 100000) (w : World) (hCE : C ≠ E) (hCA : C ≠ A) (hEA : E ≠ A) (hc : IsC w C rep hd (ptrV A 0) len size) (he : IsE w E (.pointer none) (.pointer none) l0 v) (ha : IsE w A (ptrV C 1) p ls va) :
    Calls Ybad.prog 25 #[ptrV C 1, ptrV E 0, ptrV A 0] w fun e w' => e = .returned (ptrV E 0) ∧ IsC w' C rep hd (ptrV E 0) (len + 1) size ∧ IsE w' E (ptrV C 1) (ptrV A 0) (ptrV C 1) v ∧ IsE w' A (ptrV E 0) p ls va ∧ But (fun k => k = C ∨ k = E ∨ k = A) w w' := by
  have c2 : w.cell? ⟨C, 2, none⟩ = some (ptrV A 0) := block_cell hc 2
  have c5 : w.cell? ⟨C, 5, none⟩ = some (.int .i64 len) := block_cell hc 5
  have e0 : w.cell? ⟨E, 0, none⟩ = some (.pointer none) := block_cell he 0
  have e1 : w.cell? ⟨E, 1, none⟩ = some (.pointer none) := block_cell he 1
  have e2 : w.cell? ⟨E, 2, none⟩ = some l0 := block_cell he 2
  have a0 : w.cell? ⟨A, 0, none⟩ = some (ptrV C 1) := block_cell ha 0
  have fc : ∀ i, w.frozen? ⟨C, i, none⟩ = false := block_frozen hc
  have fe : ∀ i, w.frozen? ⟨E, i, none⟩ = false := block_frozen he
  have fa : ∀ i, w.frozen? ⟨A, i, none⟩ = false := block_frozen ha
  have hEC : E ≠ C := fun h => hCE h.symm
  have hAC : A ≠ C := fun h => hCA h.symm
  have hAE : A ≠ E := fun h => hEA h.symm
  have HC := hid hc
  have HE := hid he
  have HA := hid ha
  clear hc he ha
  go_enter Ybad.func25, Ybad.ntmps25
  go_wp2_with fail
  go_ret
  exact ⟨rfl, block_set (set_other hEC (block_set (set_other hAC (set_other hEC (set_other hEC HC.out))) _ _)) _ _,
    set_other hCE (block_set (set_other hCE (set_other hAE (block_set (block_set HE.out _ _) _ _))) _ _),
    set_other hCA (set_other hEA (set_other hCA (block_set (set_other hEA (set_other hEA HA.out)) _ _))),
    ((((((But.refl _ _).set (.inr (.inl rfl)) _).set (.inr (.inl rfl)) _).set (.inr (.inr rfl)) _).set (.inl rfl) _).set (.inr (.inl rfl)) _).set (.inl rfl) _⟩

set_option maxHeartbeats 1000000 in
theorem init_raw (C : Nat) (rep : Value) (size : Int) (w : World) (hc : IsC w C rep (.pointer none) (.pointer none) 0 size) :
    Calls Ybad.prog 24 #[ptrV C 1] w fun e w' => e = .returned (ptrV C 1) ∧ IsC w' C rep (ptrV C 1) (ptrV C 1) 0 size ∧ But (fun k => k = C) w w' := by
  have c1 : w.cell? ⟨C, 1, none⟩ = some (.pointer none) := block_cell hc 1
  have c2 : w.cell? ⟨C, 2, none⟩ = some (.pointer none) := block_cell hc 2
  have c5 : w.cell? ⟨C, 5, none⟩ = some (.int .i64 0) := block_cell hc 5
  have fc : ∀ i, w.frozen? ⟨C, i, none⟩ = false := block_frozen hc
  have HC := hid hc
  clear hc
  go_enter Ybad.func24, Ybad.ntmps24
  go_wp2_with fail
  go_ret
  exact ⟨rfl, block_set (block_set (block_set HC.out _ _) _ _) _ _, (((But.refl (fun k => k = C) w).set (b := C) rfl _).set (b := C) rfl _).set (b := C) rfl _⟩

set_option maxHeartbeats 1000000 in
theorem lazy_raw (C : Nat) (rep : Value) (size : Int) (w : World) (hc : IsC w C rep (.pointer none) (.pointer none) 0 size) :
    Calls Ybad.prog 21 #[ptrV C 1] w fun e w' => e = .returned (.tuple #[]) ∧ IsC w' C rep (ptrV C 1) (ptrV C 1) 0 size ∧ But (fun k => k = C) w w' := by
  have c1 : w.cell? ⟨C, 1, none⟩ = some (.pointer none) := block_cell hc 1
  have HC := hid hc
  clear hc
  go_enter Ybad.func21, Ybad.ntmps21
  go_wp2_with fail
  refine (init_raw C rep size w HC.out).mono ?_
  rintro e w1 ⟨rfl, h1, h2⟩
  have H1 := hid h1
  have H2 := hid h2
  clear h1 h2
  go_wp2_with fail
  go_end0
  exact ⟨rfl, H1.out, H2.out⟩

set_option maxHeartbeats 1000000 in
theorem lazy_more (C A : Nat) (rep pv : Value) (len size : Int) (w : World) (hc : IsC w C rep (ptrV A 0) pv len size) :
    Calls Ybad.prog 21 #[ptrV C 1] w fun e w' => e = .returned (.tuple #[]) ∧ w' = w := by
  have c1 : w.cell? ⟨C, 1, none⟩ = some (ptrV A 0) := block_cell hc 1
  clear hc
  go_enter Ybad.func21, Ybad.ntmps21
  go_wp2_with fail
  go_end0
  exact ⟨rfl, rfl⟩

theorem But.kept {p : Nat → Prop} {w w' : World} (h : But p w w') {k : Nat} {o : Obj} (ho : w.heap[k]? = some o) (hp : ¬ p k) : w'.heap[k]? = some o := (h.block k (block_lt ho) hp).trans ho

set_option maxHeartbeats 1000000 in
theorem value_first (C K : Nat) (rep : Value) (size : Int) (w : World) (hc : IsC w C rep (ptrV C 1) (ptrV C 1) 0 size) :
    Calls Ybad.prog 22 #[ptrV C 1, .iface 70 (ptrV K 0), ptrV C 1] w fun e w' => e = .returned (ptrV w.heap.size 0) ∧ IsC w' C rep (ptrV w.heap.size 0) (ptrV w.heap.size 0) 1 size ∧ IsE w' w.heap.size (ptrV C 1) (ptrV C 1) (ptrV C 1) (.iface 70 (ptrV K 0)) ∧ But (fun k => k = C) w w' := by
  have hlt := block_lt hc
  have HC := hid hc
  clear hc
  go_enter Ybad.func22, Ybad.ntmps22
  go_wp2_with fail
  obtain ⟨wa, hwa⟩ : ∃ wa, wa = w.alloc (.cells (elArr (.pointer none) (.pointer none) (.pointer none) (.iface 70 (ptrV K 0))) 28) := ⟨_, rfl⟩
  have hb : Below w.heap.size w wa := by rw [hwa]; exact (Below.refl _ _).alloc (Nat.le_refl _) _
  have he : IsE wa w.heap.size (.pointer none) (.pointer none) (.pointer none) (.iface 70 (ptrV K 0)) := by rw [hwa]; exact alloc_at _ _ _ rfl
  have hca : IsC wa C rep (ptrV C 1) (ptrV C 1) 0 size := (hb.block _ hlt).trans HC.out
  rw [← hwa]
  refine Calls.mono (insert_first C w.heap.size rep _ _ size wa (by omega) hca he) ?_
  rintro e w1 ⟨rfl, h1, h2, h3⟩
  have H1 := hid h1
  have H2 := hid h2
  have H3 := hid (show But (fun k => k = C) w w1 from ⟨h3.os.trans hb.os, h3.tape.trans hb.tape, h3.output.trans hb.output, Nat.le_trans hb.size h3.size, fun k hk hp => (h3.block k (Nat.lt_of_lt_of_le hk hb.size) (by rintro (h | h); exact hp h; omega)).trans (hb.block k hk)⟩)
  clear h1 h2 h3 hb he hca hwa
  go_wp2_with fail
  go_ret
  exact ⟨rfl, H1.out, H2.out, H3.out⟩
set_option maxHeartbeats 1000000 in
theorem value_more (C K A : Nat) (rep hd p ls va : Value) (len size : Int) (h0 : 0 ≤ len) (h1 : len ≤ 100000) (w : World) (hCA : C ≠ A) (hc : IsC w C rep hd (ptrV A 0) len size) (ha : IsE w A (ptrV C 1) p ls va) :
    Calls Ybad.prog 22 #[ptrV C 1, .iface 70 (ptrV K 0), ptrV A 0] w fun e w' => e = .returned (ptrV w.heap.size 0) ∧ IsC w' C rep hd (ptrV w.heap.size 0) (len + 1) size ∧ IsE w' w.heap.size (ptrV C 1) (ptrV A 0) (ptrV C 1) (.iface 70 (ptrV K 0)) ∧ IsE w' A (ptrV w.heap.size 0) p ls va ∧ But (fun k => k = C ∨ k = A) w w' := by
  have hlt := block_lt hc
  have hla := block_lt ha
  have HC := hid hc
  have HA := hid ha
  clear hc ha
  go_enter Ybad.func22, Ybad.ntmps22
  go_wp2_with fail
  obtain ⟨wa, hwa⟩ : ∃ wa, wa = w.alloc (.cells (elArr (.pointer none) (.pointer none) (.pointer none) (.iface 70 (ptrV K 0))) 28) := ⟨_, rfl⟩
  have hb : Below w.heap.size w wa := by rw [hwa]; exact (Below.refl _ _).alloc (Nat.le_refl _) _
  have he : IsE wa w.heap.size (.pointer none) (.pointer none) (.pointer none) (.iface 70 (ptrV K 0)) := by rw [hwa]; exact alloc_at _ _ _ rfl
  have hca : IsC wa C rep hd (ptrV A 0) len size := (hb.block _ hlt).trans HC.out
  have haa : IsE wa A (ptrV C 1) p ls va := (hb.block _ hla).trans HA.out
  rw [← hwa]
  refine Calls.mono (insert_more C w.heap.size A rep _ _ hd p ls va len size h0 h1 wa (by omega) hCA (by omega) hca he haa) ?_
  rintro e w1 ⟨rfl, k1, k2, k4, k3⟩
  have H1 := hid k1
  have H2 := hid k2
  have H4 := hid k4
  have H3 := hid (show But (fun k => k = C ∨ k = A) w w1 from ⟨k3.os.trans hb.os, k3.tape.trans hb.tape, k3.output.trans hb.output, Nat.le_trans hb.size k3.size, fun k hk hp => (k3.block k (Nat.lt_of_lt_of_le hk hb.size) (by rintro (h | h | h); exact hp (.inl h); omega; exact hp (.inr h))).trans (hb.block k hk)⟩)
  clear k1 k2 k3 k4 hb he hca haa hwa
  go_wp2_with fail
  go_ret
  exact ⟨rfl, H1.out, H2.out, H4.out, H3.out⟩

set_option maxHeartbeats 1000000 in
theorem push_raw (C K : Nat) (rep : Value) (size : Int) (w : World) (hc : IsC w C rep (.pointer none) (.pointer none) 0 size) :
    Calls Ybad.prog 14 #[ptrV C 1, .iface 70 (ptrV K 0)] w fun e w' => ∃ E, w.heap.size ≤ E ∧ e = .returned (ptrV E 0) ∧ IsC w' C rep (ptrV E 0) (ptrV E 0) 1 size ∧ IsE w' E (ptrV C 1) (ptrV C 1) (ptrV C 1) (.iface 70 (ptrV K 0)) ∧ But (fun k => k = C) w w' := by
  have hlt := block_lt hc
  have HC := hid hc
  clear hc
  go_enter Ybad.func14, Ybad.ntmps14
  go_wp2_with fail
  refine (lazy_raw C rep size w HC.out).mono ?_
  rintro e w1 ⟨rfl, h1, h2⟩
  have c2 : w1.cell? ⟨C, 2, none⟩ = some (ptrV C 1) := block_cell h1 2
  have H1 := hid h1
  have H2 := hid h2
  clear h1 h2
  go_wp2_with fail
  refine (value_first C K rep size w1 H1.out).mono ?_
  rintro e w2 ⟨rfl, k1, k2, k3⟩
  have K1 := hid k1
  have K2 := hid k2
  have K3 := hid (H2.out.trans k3)
  clear k1 k2 k3
  go_wp2_with fail
  go_ret
  exact ⟨_, H2.out.size, rfl, K1.out, K2.out, K3.out⟩

set_option maxHeartbeats 1000000 in
theorem push_more (C K A F : Nat) (rep p ls va : Value) (len size : Int) (h0 : 0 ≤ len) (h1 : len ≤ 100000) (w : World) (hCA : C ≠ A) (hc : IsC w C rep (ptrV F 0) (ptrV A 0) len size) (ha : IsE w A (ptrV C 1) p ls va) :
    Calls Ybad.prog 14 #[ptrV C 1, .iface 70 (ptrV K 0)] w fun e w' => ∃ E, w.heap.size ≤ E ∧ e = .returned (ptrV E 0) ∧ IsC w' C rep (ptrV F 0) (ptrV E 0) (len + 1) size ∧ IsE w' E (ptrV C 1) (ptrV A 0) (ptrV C 1) (.iface 70 (ptrV K 0)) ∧ IsE w' A (ptrV E 0) p ls va ∧ But (fun k => k = C ∨ k = A) w w' := by
  have c2 : w.cell? ⟨C, 2, none⟩ = some (ptrV A 0) := block_cell hc 2
  have HC := hid hc
  have HA := hid ha
  clear hc ha
  go_enter Ybad.func14, Ybad.ntmps14
  go_wp2_with fail
  refine (lazy_more C F rep _ len size w HC.out).mono ?_
  rintro e w1 ⟨rfl, rfl⟩
  go_wp2_with fail
  refine (value_more C K A rep _ p ls va len size h0 h1 w1 hCA HC.out HA.out).mono ?_
  rintro e w2 ⟨rfl, k1, k2, k4, k3⟩
  have K1 := hid k1
  have K2 := hid k2
  have K4 := hid k4
  have K3 := hid k3
  clear k1 k2 k3 k4
  go_wp2_with fail
  go_ret
  exact ⟨_, Nat.le_refl _, rfl, K1.out, K2.out, K4.out, K3.out⟩
end Go.Proofs.YbulkcamsDoor.KP
