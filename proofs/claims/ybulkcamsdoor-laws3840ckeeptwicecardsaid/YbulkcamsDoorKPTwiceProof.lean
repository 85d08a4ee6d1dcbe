import Derived.Test.YbulkcamsDoorKPTwice
import Derived.Test.YbulkcamsDoorTie
import Derived.Test.YbulkcamsDoorCards
import Derived.ProofKit
import Derived.LaidMore
import Derived.OpenShut
import Derived.OpenVars
import Derived.ShutString
import Derived.ChangeOld
import Derived.Below
import Derived.Stop.Joined
import Derived.SevenTiedAt
import Derived.Lay
import Derived.ChangeMaps5
namespace Go.Proofs.YbulkcamsDoor.lawS3840CKeepTwice
open Go.ChangeShapes Go.WideShapes Go.ChangeAt Go.RowKit
set_option linter.unusedVariables false
set_option maxRecDepth 10000

theorem own : ownKnob Ybad.prog.godebug = none := by kernel_rfl
theorem laidOut : laidOutB Ybad.prog = true := by kernel_rfl
theorem grk : Ybad.prog.globalNamed "example.com/gatewright/gatewright.replyKept" = some 0 := by kernel_rfl
theorem trk : (Ybad.prog.globals[0]?).map (·.type) = some 48 := by kernel_rfl

/-- What the listed variable holds. -/
theorem of_laid {W : World} (h : laidMetH Ybad.prog Rows.lawS3840CKeepTwiceRow.laid W) : W.cell? ⟨0, 0, none⟩ = some (.int .i64 90000000000) := by
  rw [MakeChecks.laidMetH_plain _ _ _ (by kernel_rfl)] at h
  obtain ⟨ps, ⟨g0, t0, cs0, f0, p0, q0, hg0, ht0, hv0, hd0, _⟩, _, _⟩ := h
  obtain rfl := Option.some.inj (grk.symm.trans hg0)
  obtain rfl := Option.some.inj (trk.symm.trans ht0)
  obtain ⟨z, hz, hd, _⟩ := DataW.trod_int Ybad.underlying48 hd0
  have := World.var?_cell hg0 hv0 0
  rw [this]
  obtain ⟨l⟩ := cs0
  simp at hz
  subst hz
  have : z = 90000000000 := by
    simp [Rows.laid_example_com_gatewright_gatewright_replyKept] at hd
    exact hd.1.symm
  subst this
  rfl

/-- WHAT THE WALK IS TOLD OF A SLICE OF INTEGERS THAT CAME IN. -/
def IsRow (k : IntKind) (w : World) (a : Option Addr) (len cap : Nat) (zs : List Int) : Prop :=
  (a = none ∧ len = 0 ∧ cap = 0 ∧ zs = []) ∨
  ∃ x, a = some x ∧ len ≤ cap ∧ cap ≤ maxLen ∧ zs.length = cap ∧ (∀ i, i < zs.length → w.cell? (x.add i) = some (.int k (zs.getD i 0))) ∧ ∀ n ∈ zs, (Lit.int k n).wf = true

theorem okU_getD {zs : List Int} (h : ∀ n ∈ zs, (Lit.int .u32 n).wf = true) (i : Nat) : KP.okU (zs.getD i 0) := by
  rw [List.getD_eq_getElem?_getD]
  cases hg : zs[i]? with
  | none => simp [KP.okU, Lit.wf, IntKind.min, IntKind.max, IntKind.signed, IntKind.bits]
  | some v => exact h v (List.mem_of_getElem? hg)

theorem src_of {w : World} {a0 : Option Addr} {len0 cap0 : Nat} {z0 : List Int} (w0 : IsRow .u32 w a0 len0 cap0 z0) : KP.Src w a0 len0 cap0 (fun j => z0.getD j 0) := by
  rcases w0 with ⟨rfl, rfl, rfl, rfl⟩ | ⟨x, rfl, g1, g2, g3, hc, hwz⟩
  · exact .inl ⟨rfl, rfl, rfl⟩
  · refine .inr ⟨x, rfl, fun j hj => ⟨hc j (by omega), ?_⟩⟩
    have := okU_getD hwz j
    have : 0 ≤ z0.getD j 0 ∧ z0.getD j 0 ≤ 4294967295 := by simpa [KP.okU, Lit.wf, IntKind.min, IntKind.max, IntKind.signed, IntKind.bits] using this
    exact ⟨this.1, by show z0.getD j 0 < 4294967296; omega⟩

theorem okU_row {w : World} {a0 : Option Addr} {len0 cap0 : Nat} {z0 : List Int} (w0 : IsRow .u32 w a0 len0 cap0 z0) (i : Nat) : KP.okU (z0.getD i 0) := by
  rcases w0 with ⟨_, _, _, rfl⟩ | ⟨_, _, _, _, _, _, hwz⟩
  · exact okU_getD (by simp) i
  · exact okU_getD hwz i

theorem walk (d : Int) (mid : ByteArray) (a0 : Option Addr) (len0 cap0 : Nat) (z0 : List Int) (a1 : Option Addr) (len1 cap1 : Nat) (z1 : List Int) (ta tb : Int) (w : World) (wd : (Lit.int .i64 d).wf = true) (ws : mid.size ≤ maxLen) (w0 : IsRow .u32 w a0 len0 cap0 z0) (w1 : IsRow .u32 w a1 len1 cap1 z1) (hg : w.cell? ⟨0, 0, none⟩ = some (.int .i64 90000000000)) :
    Calls Ybad.prog 4 #[.int .i64 d, .string mid, .slice a0 len0 cap0, .slice a1 len1 cap1, .int .i64 ta, .int .i64 tb] w fun e w' => e = .returned (.bool true) ∧ Below w.heap.size w w' := by
  have bd : -9223372036854775808 ≤ d ∧ d ≤ 9223372036854775807 := by simpa [Lit.wf, IntKind.min, IntKind.max, IntKind.signed, IntKind.bits] using wd
  by_cases h : 1024 < len0 ∨ 1024 < len1 ∨ ta < -1048576 ∨ 1048576 < ta ∨ tb < -1048576 ∨ 1048576 < tb
  · exact KP.two_out a0 a1 len0 cap0 len1 cap1 d ta tb mid w h
  · exact KP.two_in a0 a1 len0 cap0 len1 cap1 d ta tb mid _ _ w (by omega) (by omega) bd.1 bd.2 (by omega) (by omega) (by omega) (by omega) ws (src_of w0) (src_of w1) (okU_row w0) (okU_row w1) hg

set_option maxRecDepth 100000 in
theorem lifted (os : Os) (started : os.Started) (H : Type) (enc : TypeId × Value → H) :
    ReturnsInHanded {} Ybad.checked os 4 .any (fun w args => (Rows.lawS3840CKeepTwiceSpec.pre enc Ybad.prog Ybad.f4 [] false w args ∧ laidMetH Ybad.prog Rows.lawS3840CKeepTwiceRow.laid w) ∧ sizedMet enc Ybad.prog Ybad.f4 (OpenSpec.ofChange Rows.lawS3840CKeepTwiceSpec) false w args)
      (Rows.lawS3840CKeepTwiceSpec.post enc Ybad.prog Ybad.f4 false true false false) := by
  refine returnsInHanded_of_change_and (C := Ybad.checked) (X := fun w _ => laidMetH Ybad.prog Rows.lawS3840CKeepTwiceRow.laid w) (fun _ _ _ hh h => h.of_heap hh) own started (by kernel_rfl) Ybad.func4
    (ChangeSpec.witness_shaped (enc := enc) (C := Ybad.checked) (os := os) (X := fun w _ => laidMetH Ybad.prog Rows.lawS3840CKeepTwiceRow.laid w) false (World.laidAll Ybad.prog os Rows.lawS3840CKeepTwiceRow.laid) #[.int .i64 0, .string ⟨#[]⟩, .slice none 0 0, .slice none 0 0, .int .i64 0, .int .i64 0] 8 (World.laidAll_os _ _ _)
      (World.shaped_of_ZipB (by kernel_rfl) (by kernel_rfl)) (by kernel_rfl) (by kernel_rfl) (by kernel_rfl)
      (by rw [MakeChecks.laidMetH_plain _ _ _ (by kernel_rfl)]; exact laidMet_laidAll _ (by kernel_rfl) (by kernel_rfl))) ?_
  intro W base args ds gs before hval0 hW _ _ hL _
  have hval : ∀ (j : Nat) t v, Ybad.f4.params[j]? = some t → args[j]? = some v → Value.okWide Ybad.prog W .any base t v := hval0
  have hW' := hW
  obtain ⟨p, q, hA0, hV, rfl, hfz, hnd⟩ := hW
  have hA : DataW.TrodAll enc Ybad.prog W 0 (fun _ => true) true Ybad.f4.params.toList args.toList ds p := hA0
  rw [Ybad.params4] at hA hval
  obtain ⟨v0, vs0, d0, ds0, p0, q0, hargs, rfl, rfl, h0, r0⟩ := trodAll_cons hA
  obtain ⟨v1, vs1, d1, ds1, p1, q1, rfl, rfl, rfl, h1, r1⟩ := trodAll_cons r0
  obtain ⟨v2, vs2, d2, ds2, p2, q2, rfl, rfl, rfl, h2, r2⟩ := trodAll_cons r1
  obtain ⟨v3, vs3, d3, ds3, p3, q3, rfl, rfl, rfl, h3, r3⟩ := trodAll_cons r2
  obtain ⟨v4, vs4, d4, ds4, p4, q4, rfl, rfl, rfl, h4, r4⟩ := trodAll_cons r3
  obtain ⟨v5, vs5, d5, ds5, p5, q5, rfl, rfl, rfl, h5, r5⟩ := trodAll_cons r4
  obtain ⟨rfl, rfl, rfl⟩ := trodAll_nil r5
  obtain rfl : args = #[v0, v1, v2, v3, v4, v5] := by cases args; simp_all
  obtain ⟨g, rfl⟩ : ∃ g, gs = [g] := by obtain ⟨_, _, _, _, g, _, e, _⟩ := trodVars_one hV; exact ⟨g, e⟩
  obtain ⟨a0, rfl, rfl, rfl, w0⟩ := open_int Ybad.underlying2 (hval 0 2 v0 rfl rfl) h0
  obtain ⟨a1, rfl, rfl, rfl, w1⟩ := ChangeMaps.open_string Ybad.underlying9 (hval 1 9 v1 rfl rfl) h1
  obtain ⟨a2, len2, cap2, rfl⟩ := okWide_slice Ybad.underlying22 (hval 2 22 v2 rfl rfl)
  have k2 := h2
  have lt2 : ∀ x ∈ p2, x.block < W.heap.size := by obtain ⟨m, hm⟩ := k2; exact DataW.trod_lt m _ _ _ hm
  obtain ⟨z2, w2⟩ : ∃ zs, IsRow .u32 W a2 len2 cap2 zs := by
    obtain ⟨fuel, hf⟩ := h2
    rcases open_ints Ybad.underlying22 Ybad.underlying62 (by kernel_rfl) hf with ⟨hcs, _⟩ | ⟨x, l, c, zs, hcs, _, hl, hm, hz, _, hcell, hwz⟩
    · simp [Value.cells] at hcs
      obtain ⟨rfl, rfl, rfl⟩ := hcs
      exact ⟨[], .inl ⟨rfl, rfl, rfl, rfl⟩⟩
    · simp [Value.cells] at hcs
      obtain ⟨rfl, rfl, rfl⟩ := hcs
      exact ⟨zs, .inr ⟨_, rfl, hl, hm, by simpa using hz, hcell, hwz⟩⟩
  obtain ⟨a3, len3, cap3, rfl⟩ := okWide_slice Ybad.underlying22 (hval 3 22 v3 rfl rfl)
  have k3 := h3
  have lt3 : ∀ x ∈ p3, x.block < W.heap.size := by obtain ⟨m, hm⟩ := k3; exact DataW.trod_lt m _ _ _ hm
  obtain ⟨z3, w3⟩ : ∃ zs, IsRow .u32 W a3 len3 cap3 zs := by
    obtain ⟨fuel, hf⟩ := h3
    rcases open_ints Ybad.underlying22 Ybad.underlying62 (by kernel_rfl) hf with ⟨hcs, _⟩ | ⟨x, l, c, zs, hcs, _, hl, hm, hz, _, hcell, hwz⟩
    · simp [Value.cells] at hcs
      obtain ⟨rfl, rfl, rfl⟩ := hcs
      exact ⟨[], .inl ⟨rfl, rfl, rfl, rfl⟩⟩
    · simp [Value.cells] at hcs
      obtain ⟨rfl, rfl, rfl⟩ := hcs
      exact ⟨zs, .inr ⟨_, rfl, hl, hm, by simpa using hz, hcell, hwz⟩⟩
  obtain ⟨a4, rfl, rfl, rfl, w4⟩ := open_int Ybad.underlying3 (hval 4 3 v4 rfl rfl) h4
  obtain ⟨a5, rfl, rfl, rfl, w5⟩ := open_int Ybad.underlying3 (hval 5 3 v5 rfl rfl) h5
  clear hA0 hval0
  refine (walk a0 a1 a2 len2 cap2 z2 a3 len3 cap3 z3 a4 a5 W w0 w1 w2 w3 (of_laid hL)).mono fun e W' ⟨he, bel⟩ => ?_
  subst he
  exact ⟨_, rfl, _, _, _, [], _, _, hW', trodAll_mk1 (shut_bool Ybad.underlying4 _), (trodAll_cons_mk (shut_int Ybad.underlying2 w0) (trodAll_cons_mk (ChangeMaps.shut_string Ybad.underlying9 w1) (trodAll_cons_mk (Below.trod laidOut (by kernel_rfl) (of_decide_eq_true (by kernel_rfl)) k2 bel lt2) (trodAll_cons_mk (Below.trod laidOut (by kernel_rfl) (of_decide_eq_true (by kernel_rfl)) k3 bel lt3) (trodAll_cons_mk (shut_int Ybad.underlying3 w4) (trodAll_cons_mk (shut_int Ybad.underlying3 w5) trodAll_mk0)))))), Below.trodVars laidOut bel (by kernel_rfl) hV, bel.frame _, fun h => by cases h⟩

theorem over : Rows.LawS3840CKeepTwiceSaid :=
  OpenClaim.holds_of_wide 4 Ybad.f4 rfl rfl rfl rfl rfl rfl rfl ⟨rfl, rfl, rfl, rfl, rfl⟩ rfl rfl rfl rfl rfl (by kernel_rfl) Ybad.func4 (by kernel_rfl)
    (of_decide_eq_true (by kernel_rfl)) (by unfold Func.isWrapper; first | (rw [if_pos (by decide +kernel)]; kernel_rfl) | (rw [if_neg (by decide +kernel)]; exact ⟨rfl, rfl⟩))
    (fun os started H enc _ => lifted os started H enc)

theorem proved : Rows.LawS3840CKeepTwiceCardSaid :=
  Claim7.holds_tied_plain_at .later [] [.wider] true (true, "a454e3a985ad08a2139d6c3c539538350d21bfa25328008b7a0d44e19230aa1d") true
    over (fun _ h => by cases h) (by kernel_rfl) (fun _ h => by cases h) lawS3840CKeepTwice_row_tie rfl ⟨rfl, rfl⟩ (by kernel_rfl) rfl
    (fun f fn hf hfn => by
      obtain rfl : f = 4 := Option.some.inj ((show Ybad.prog.funcNamed "example.com/gatewright/gatewright.LawS3840CKeepTwice" = some 4 by kernel_rfl).symm.trans hf) |>.symm
      obtain rfl : fn = Ybad.f4 := (Option.some.inj (Ybad.func4.symm.trans hfn)).symm
      exact ⟨by kernel_rfl, fun j t ht => by
        rw [Ybad.params4] at ht
        have hm : t ∈ [2, 9, 22, 22, 3, 3] := by simpa using Array.mem_of_getElem? ht
        have hall : ([2, 9, 22, 22, 3, 3].all fun u => !Ybad.prog.wantsStandIn u) = true := by kernel_rfl
        exact (show Ybad.prog.wantsStandIn t = false by simpa using List.all_eq_true.1 hall t hm)⟩)
    (by kernel_rfl)
end Go.Proofs.YbulkcamsDoor.lawS3840CKeepTwice
