import Derived.Test.YbulkcajmBMLaw
import Derived.Test.YbulkcajmBMEdge
import Derived.ProofKit
import Derived.OpenShut
import Derived.ShutString
import Derived.ChangeOld
import Derived.Below
import Derived.Deep.Slices
namespace Go.Proofs.Ybulkcajm.lawS3834BModel
open Go.ChangeShapes Go.WideShapes Go.ChangeAt Go.RowKit
open Go.Deep (open_slice choose_lt add_add)
set_option linter.unusedVariables false
set_option maxRecDepth 10000

theorem own : ownKnob Yba.prog.godebug = none := by kernel_rfl
theorem laidOut : laidOutB Yba.prog = true := by kernel_rfl
theorem cells35 : Yba.prog.cellsOf 35 = 4 := by kernel_rfl
theorem cells2 : Yba.prog.cellsOf 2 = 1 := by kernel_rfl
theorem cells5 : Yba.prog.cellsOf 5 = 1 := by kernel_rfl
theorem cells27 : Yba.prog.cellsOf 27 = 1 := by kernel_rfl

theorem open_ents {H : Type} {enc : TypeId × Value → H} {W : World} {base : Nat} {sp : Nat → Bool} {held : Bool} {fuel : Nat} {cs : List Value} {x : DataW H × List MemPlace}
    (h : DataW.trod enc Yba.prog W base sp held fuel 22 cs = some x) :
    cs = [.slice none 0 0] ∨ ∃ (a : Addr) (len cap : Nat) (q : Nat → Int × Int × Int × Int), cs = [.slice (some a) len cap] ∧ len ≤ cap ∧ cap ≤ maxLen ∧
      ∀ j, j < len → (W.cell? (a.add (j * 4)) = some (.int .i64 (q j).1) ∧ W.cell? (a.add (j * 4 + 1)) = some (.int .i64 (q j).2.1) ∧ W.cell? (a.add (j * 4 + 2)) = some (.int .u8 (q j).2.2.1) ∧ W.cell? (a.add (j * 4 + 3)) = some (.int .u64 (q j).2.2.2)) ∧
        (Lit.int .i64 (q j).1).wf = true ∧ (Lit.int .i64 (q j).2.1).wf = true ∧ (Lit.int .u8 (q j).2.2.1).wf = true ∧ (Lit.int .u64 (q j).2.2.2).wf = true := by
  rcases open_slice Yba.underlying22 h with ⟨h0, _⟩ | ⟨a, len, cap, m, n, D, Pl, rfl, hb, hl, hm, hmm, rfl, hx⟩
  · exact .inl h0
  right
  have hlm : len ≤ m := by rw [hmm]; split <;> omega
  have each : ∀ j, j < len → ∃ q : Int × Int × Int × Int, (W.cell? (a.add (j * 4)) = some (.int .i64 q.1) ∧ W.cell? (a.add (j * 4 + 1)) = some (.int .i64 q.2.1) ∧ W.cell? (a.add (j * 4 + 2)) = some (.int .u8 q.2.2.1) ∧ W.cell? (a.add (j * 4 + 3)) = some (.int .u64 q.2.2.2)) ∧
        (Lit.int .i64 q.1).wf = true ∧ (Lit.int .i64 q.2.1).wf = true ∧ (Lit.int .u8 q.2.2.1).wf = true ∧ (Lit.int .u64 q.2.2.2).wf = true := by
    intro j hj
    obtain ⟨cs', h1, h2⟩ := hx j (by omega)
    rw [cells35] at h1
    obtain ⟨_, hlen, hcell⟩ := World.cells?_some h1
    obtain ⟨xs, k, hk, hxy, _, hxl, hf⟩ := DataW.trod_struct Yba.underlying35 h2
    match xs, hxl, cs', hlen with
    | [y0, y1, y2, y3], _, [v0, v1, v2, v3], _ =>
      have g0 := hf 0 _ rfl
      have g1 := hf 1 _ rfl
      have g2 := hf 2 _ rfl
      have g3 := hf 3 _ rfl
      simp [cells2, cells5, cells27] at g0 g1 g2 g3
      obtain ⟨z0, e0, -, w0⟩ := DataW.trod_int Yba.underlying2 g0
      obtain ⟨z1, e1, -, w1⟩ := DataW.trod_int Yba.underlying2 g1
      obtain ⟨z2, e2, -, w2⟩ := DataW.trod_int Yba.underlying5 g2
      obtain ⟨z3, e3, -, w3⟩ := DataW.trod_int Yba.underlying27 g3
      simp at e0 e1 e2 e3
      subst e0; subst e1; subst e2; subst e3
      have c0 := hcell 0 (by omega)
      have c1 := hcell 1 (by omega)
      have c2 := hcell 2 (by omega)
      have c3 := hcell 3 (by omega)
      rw [add_add] at c0 c1 c2 c3
      exact ⟨(z0, z1, z2, z3), ⟨by simpa using c0, by simpa using c1, by simpa using c2, by simpa using c3⟩, w0, w1, w2, w3⟩
  obtain ⟨q, hq⟩ := choose_lt each
  exact ⟨a, len, cap, q, rfl, hl, hm, hq⟩

theorem walk (a0 : Option Addr) (len0 cap0 : Nat) (a1 : Int) (w : World)
    (h : (a0 = none ∧ len0 = 0 ∧ cap0 = 0) ∨ ∃ (a : Addr) (q : Nat → Int × Int × Int × Int), a0 = some a ∧ len0 ≤ cap0 ∧ cap0 ≤ maxLen ∧
      ∀ j, j < len0 → (w.cell? (a.add (j * 4)) = some (.int .i64 (q j).1) ∧ w.cell? (a.add (j * 4 + 1)) = some (.int .i64 (q j).2.1) ∧ w.cell? (a.add (j * 4 + 2)) = some (.int .u8 (q j).2.2.1) ∧ w.cell? (a.add (j * 4 + 3)) = some (.int .u64 (q j).2.2.2)) ∧
        (Lit.int .i64 (q j).1).wf = true ∧ (Lit.int .i64 (q j).2.1).wf = true ∧ (Lit.int .u8 (q j).2.2.1).wf = true ∧ (Lit.int .u64 (q j).2.2.2).wf = true)
    (w1 : (Lit.int .i64 a1).wf = true) :
    Calls Yba.prog 3 #[.slice a0 len0 cap0, .int .i64 a1] w fun e w' => e = .returned (.bool true) ∧ Below w.heap.size w w' := by
  have b1 := bounds_i64 w1
  rcases h with ⟨rfl, rfl, rfl⟩ | ⟨a, q, rfl, hl, hm, hq⟩
  · exact BM.law_zero none 0 a1 w (by omega) (by omega)
  by_cases hn : 1024 < len0
  · exact BM.law_long (some a) len0 cap0 a1 w hn (by omega)
  by_cases h0 : len0 = 0
  · subst h0
    exact BM.law_zero (some a) cap0 a1 w (by omega) (by omega)
  obtain ⟨b, off, sp⟩ := a
  have hsp : sp = none := by
    have := World.cell?_spot (hq 0 (by omega)).1.1
    simpa [Addr.add] using this
  subst hsp
  have hc : BM.Ents w b off len0 (fun j => (q j).1) (fun j => (q j).2.1) (fun j => (q j).2.2.1) (fun j => (q j).2.2.2) := fun j hj => by
    obtain ⟨⟨c0, c1, c2, c3⟩, _⟩ := hq j hj
    rw [Addr.add_lit] at c0 c1 c2 c3
    exact ⟨c0, c1, c2, c3⟩
  refine BM.law_pos b off len0 cap0 _ _ _ _ a1 w (by omega) (World.block_lt_of_cell? w _ (hc 0 (by omega)).1) hc (fun j hj => ?_) (by omega) (by omega)
  obtain ⟨_, g0, g1, g2, g3⟩ := hq j hj
  have k0 := bounds_i64 g0
  have k1 := bounds_i64 g1
  have k2 := bounds_u8 g2
  have k3 := bounds_u64 g3
  exact ⟨⟨by omega, by omega⟩, ⟨by omega, by omega⟩, ⟨by omega, by omega⟩, by omega, by omega⟩

set_option maxRecDepth 100000 in
theorem lifted (os : Os) (started : os.Started) (H : Type) (enc : TypeId × Value → H) :
    ReturnsInHanded {} Yba.checked os 3 .any (Rows.lawS3834BModelSpec.pre6 enc Yba.prog Yba.f3 Rows.lawS3834BModelRow.domain false) (Rows.lawS3834BModelSpec.post enc Yba.prog Yba.f3 false true false false) := by
  refine returnsInHanded_of_change (C := Yba.checked) own started (by kernel_rfl) Yba.func3
    (ChangeSpec.witness6 (enc := enc) (C := Yba.checked) false ⟨#[], #[.slice none 0 0, .int .i64 0], []⟩ 8 (by kernel_rfl) (by kernel_rfl) (by kernel_rfl) (by kernel_rfl)) ?_
  intro W base args ds gs before hval0 hW hcnd _
  have hval : ∀ (j : Nat) t v, Yba.f3.params[j]? = some t → args[j]? = some v → Value.okWide Yba.prog W .any base t v := hval0
  have hW' := hW
  obtain ⟨p, q, hA0, hV, rfl, hfz, hnd⟩ := hW
  have hA : DataW.TrodAll enc Yba.prog W 0 (fun _ => true) true Yba.f3.params.toList args.toList ds p := hA0
  rw [Yba.params3] at hA hval
  obtain ⟨v0, vs0, d0, ds0, p0, q0, hargs, rfl, rfl, h0, r0⟩ := trodAll_cons hA
  obtain ⟨v1, vs1, d1, ds1, p1, q1, rfl, rfl, rfl, h1, r1⟩ := trodAll_cons r0
  obtain ⟨rfl, rfl, rfl⟩ := trodAll_nil r1
  obtain rfl : args = #[v0, v1] := by cases args; simp_all
  obtain ⟨rfl, rfl⟩ := trodVars_none hV
  obtain ⟨a0, len0, cap0, rfl⟩ := okWide_slice Yba.underlying22 (hval 0 22 v0 rfl rfl)
  have k0 := h0
  have lt0 : ∀ x ∈ p0, x.block < W.heap.size := by obtain ⟨m, hm⟩ := k0; exact DataW.trod_lt m _ _ _ hm
  obtain ⟨fuel, hf⟩ := h0
  obtain ⟨a1, rfl, rfl, rfl, w1⟩ := open_int Yba.underlying2 (hval 1 2 v1 rfl rfl) h1
  have hop : (a0 = none ∧ len0 = 0 ∧ cap0 = 0) ∨ ∃ (a : Addr) (q : Nat → Int × Int × Int × Int), a0 = some a ∧ len0 ≤ cap0 ∧ cap0 ≤ maxLen ∧
      ∀ j, j < len0 → (W.cell? (a.add (j * 4)) = some (.int .i64 (q j).1) ∧ W.cell? (a.add (j * 4 + 1)) = some (.int .i64 (q j).2.1) ∧ W.cell? (a.add (j * 4 + 2)) = some (.int .u8 (q j).2.2.1) ∧ W.cell? (a.add (j * 4 + 3)) = some (.int .u64 (q j).2.2.2)) ∧
        (Lit.int .i64 (q j).1).wf = true ∧ (Lit.int .i64 (q j).2.1).wf = true ∧ (Lit.int .u8 (q j).2.2.1).wf = true ∧ (Lit.int .u64 (q j).2.2.2).wf = true := by
    rcases open_ents hf with hcs | ⟨a, len, cap, q, hcs, hl, hm, hq⟩
    · simp [Value.cells] at hcs
      exact .inl hcs
    · simp [Value.cells] at hcs
      obtain ⟨rfl, rfl, rfl⟩ := hcs
      exact .inr ⟨a, q, rfl, hl, hm, hq⟩
  clear hA0 hval0
  refine (walk a0 len0 cap0 a1 W hop w1).mono fun e W' ⟨he, bel⟩ => ?_
  subst he
  exact ⟨_, rfl, _, _, _, [], _, [], hW', trodAll_mk1 (shut_bool Yba.underlying4 _), (trodAll_cons_mk (Below.trod laidOut (by kernel_rfl) (of_decide_eq_true (by kernel_rfl)) k0 bel lt0) (trodAll_cons_mk (shut_int Yba.underlying2 w1) trodAll_mk0)), rfl, bel.frame _, fun h => by cases h⟩

theorem over : Rows.lawS3834BModelRow.holds Yba.pinned (OpenSpec.ofChange Rows.lawS3834BModelSpec) :=
  OpenClaim.holds_of_wide 3 Yba.f3 rfl rfl rfl rfl rfl rfl rfl ⟨rfl, rfl, rfl, rfl, rfl⟩ rfl rfl rfl rfl rfl (by kernel_rfl) Yba.func3 (by kernel_rfl)
    (of_decide_eq_true (by kernel_rfl)) (by unfold Func.isWrapper; first | (rw [if_pos (by decide +kernel)]; kernel_rfl) | (rw [if_neg (by decide +kernel)]; exact ⟨rfl, rfl⟩))
    (fun os started H enc _ => lifted os started H enc)

theorem proved : Rows.LawS3834BModelSaid := over
end Go.Proofs.Ybulkcajm.lawS3834BModel
