import Derived.Test.YbulkcakaDoorGBOpen
import Derived.Test.YbulkcakaDoorGBNeg
import Derived.Lib.LaidTab
namespace Go.Proofs.YbulkcakaDoor.lawS3835AGiveBack
open Go.ChangeShapes Go.WideShapes Go.ChangeAt Go.RowKit
set_option linter.unusedVariables false
set_option maxRecDepth 10000

theorem cells122 : Ybad.prog.cellsOf 122 = 20 := by kernel_rfl
theorem gpow : Ybad.prog.globalNamed "internal/strconv.uint64pow10" = some 0 := by kernel_rfl
theorem tpow : (Ybad.prog.globals[0]?).map (·.type) = some 122 := by kernel_rfl

/-- What the listed table gives. -/
theorem of_laid {W : World} (h : laidMetH Ybad.prog Rows.lawS3835AGiveBackRow.laid W) : GB.Tab W := by
  rw [MakeChecks.laidMetH_plain _ _ _ (by kernel_rfl)] at h
  obtain ⟨ps, ⟨g0, t0, cs0, f0, p0, q0, hg0, ht0, hv0, hd0, ⟨g1, t1, cs1, f1, p1, q1, hg1, ht1, hv1, hd1, ⟨g2, t2, cs2, f2, p2, q2, hg2, ht2, hv2, hd2, _, _⟩, _⟩, _⟩, _, _⟩ := h
  obtain rfl := Option.some.inj (gpow.symm.trans hg2)
  obtain rfl := Option.some.inj (tpow.symm.trans ht2)
  have := Lib.cells_of_tab (zs := Lib.pow10Tab) Ybad.underlying122 Ybad.underlying22 GB.cells22 cells122 hd2
  show World.var? Ybad.prog W _ = _
  rw [hv2, ← this]

set_option maxRecDepth 100000 in
theorem lifted (os : Os) (started : os.Started) (H : Type) (enc : TypeId × Value → H) :
    ReturnsInHanded {} Ybad.checked os 3 .any (fun w args => (Rows.lawS3835AGiveBackSpec.pre enc Ybad.prog Ybad.f3 [] false w args ∧ laidMetH Ybad.prog Rows.lawS3835AGiveBackRow.laid w) ∧ sizedMet enc Ybad.prog Ybad.f3 (OpenSpec.ofChange Rows.lawS3835AGiveBackSpec) false w args)
      (Rows.lawS3835AGiveBackSpec.post enc Ybad.prog Ybad.f3 false true false false) := by
  refine returnsInHanded_of_change_and (C := Ybad.checked) (X := fun w _ => laidMetH Ybad.prog Rows.lawS3835AGiveBackRow.laid w) (fun _ _ _ hh h => h.of_heap hh) GB.own started (by kernel_rfl) Ybad.func3
    (ChangeSpec.witness_shaped (enc := enc) (C := Ybad.checked) (os := os) (X := fun w _ => laidMetH Ybad.prog Rows.lawS3835AGiveBackRow.laid w) false (World.laidAll Ybad.prog os Rows.lawS3835AGiveBackRow.laid) #[GB.argC 0 0 0 false 0 ⟨#[]⟩ 0 0 false false 0 false, .int .i64 0, .int .i64 0] 8 (World.laidAll_os _ _ _)
      (World.shaped_of_ZipB (by kernel_rfl) (by kernel_rfl)) (by kernel_rfl) (by kernel_rfl) (by kernel_rfl)
      (by rw [MakeChecks.laidMetH_plain _ _ _ (by kernel_rfl)]; exact laidMet_laidAll _ (by kernel_rfl) (by kernel_rfl))) ?_
  intro W base args ds gs before hval0 hW _ _ hL _
  have hval : ∀ (j : Nat) t v, Ybad.f3.params[j]? = some t → args[j]? = some v → Value.okWide Ybad.prog W .any base t v := hval0
  have hW' := hW
  obtain ⟨p, q, hA0, hV, rfl, hfz, hnd⟩ := hW
  have hA : DataW.TrodAll enc Ybad.prog W 0 (fun _ => true) true Ybad.f3.params.toList args.toList ds p := hA0
  rw [Ybad.params3] at hA hval
  obtain ⟨v0, vs0, d0, ds0, p0, q0, hargs, rfl, rfl, h0, r0⟩ := trodAll_cons hA
  obtain ⟨v1, vs1, d1, ds1, p1, q1, rfl, rfl, rfl, h1, r1⟩ := trodAll_cons r0
  obtain ⟨v2, vs2, d2, ds2, p2, q2, rfl, rfl, rfl, h2, r2⟩ := trodAll_cons r1
  obtain ⟨rfl, rfl, rfl⟩ := trodAll_nil r2
  obtain rfl : args = #[v0, v1, v2] := by cases args; simp_all
  obtain ⟨rfl, rfl⟩ := trodVars_none hV
  obtain ⟨cs0, rfl, hc0⟩ := okWide_struct Ybad.underlying24 (hval 0 24 v0 rfl rfl)
  have k0 := h0
  have lt0 : ∀ x ∈ p0, x.block < W.heap.size := by obtain ⟨m, hm⟩ := k0; exact DataW.trod_lt m _ _ _ hm
  obtain ⟨fuel, hf⟩ := h0
  obtain ⟨b, mx, pr, ng, sm, dg, ex, fl, fe, ft, gb, og, hcs, hdg⟩ := GB.open_c hf
  obtain rfl : cs0 = #[.int .i64 b, .int .i64 mx, .int .i64 pr, .bool ng, .int .u64 sm, .string dg, .int .i32 ex, .int .i64 fl, .bool fe, .bool ft, .int .i64 gb, .bool og] := by
    cases cs0; simp [Value.cells] at hcs; subst hcs; rfl
  obtain ⟨a1, rfl, rfl, rfl, w1⟩ := open_int Ybad.underlying2 (hval 1 2 v1 rfl rfl) h1
  obtain ⟨a2, rfl, rfl, rfl, w2⟩ := open_int Ybad.underlying2 (hval 2 2 v2 rfl rfl) h2
  have b1 := bounds_i64 w1
  have hw : Calls Ybad.prog 3 #[GB.argC b mx pr ng sm dg ex fl fe ft gb og, .int .i64 a1, .int .i64 a2] W fun e w' => e = .returned (.bool true) ∧ Below W.heap.size W w' := by
    by_cases hd : a1 < 0
    · exact GB.giveBack_neg b mx pr ng sm dg ex fl fe ft gb og a1 a2 hd (by omega) (by omega) W (of_laid hL)
    · exact GB.giveBack_pos b mx pr ng sm dg ex fl fe ft gb og a1 a2 (by omega) (by omega) (by omega) W (of_laid hL)
  clear hA0 hval0
  refine hw.mono fun e W' ⟨he, bel⟩ => ?_
  subst he
  exact ⟨_, rfl, _, _, _, [], _, [], hW', trodAll_mk1 (shut_bool Ybad.underlying4 _), (trodAll_cons_mk (Below.trod GB.laidOut (by kernel_rfl) (of_decide_eq_true (by kernel_rfl)) k0 bel lt0) (trodAll_cons_mk (shut_int Ybad.underlying2 w1) (trodAll_cons_mk (shut_int Ybad.underlying2 w2) trodAll_mk0))), rfl, bel.frame _, fun h => by cases h⟩

theorem over : Rows.LawS3835AGiveBackSaid :=
  OpenClaim.holds_of_wide 3 Ybad.f3 rfl rfl rfl rfl rfl rfl rfl ⟨rfl, rfl, rfl, rfl, rfl⟩ rfl rfl rfl rfl rfl (by kernel_rfl) Ybad.func3 (by kernel_rfl)
    (of_decide_eq_true (by kernel_rfl)) (by unfold Func.isWrapper; first | (rw [if_pos (by decide +kernel)]; kernel_rfl) | (rw [if_neg (by decide +kernel)]; exact ⟨rfl, rfl⟩))
    (fun os started H enc _ => lifted os started H enc)

theorem proved : Rows.LawS3835AGiveBackCardSaid :=
  Claim7.holds_tied_plain_at .later [] [.data, .data, .data] true (true, "afe67d3955cda2903ac29e1e44f5089d3e1b7ba746b98be61ad0b361703e6c76") true
    over (fun _ h => by cases h) (by kernel_rfl) (fun _ h => by cases h) lawS3835AGiveBack_row_tie rfl ⟨rfl, rfl⟩ (by kernel_rfl) rfl
    (fun f fn hf hfn => by
      obtain rfl : f = 3 := Option.some.inj ((show Ybad.prog.funcNamed "example.com/headroom/headroom.LawS3835AGiveBack" = some 3 by kernel_rfl).symm.trans hf) |>.symm
      obtain rfl : fn = Ybad.f3 := (Option.some.inj (Ybad.func3.symm.trans hfn)).symm
      exact ⟨by kernel_rfl, fun j t ht => by
        rw [Ybad.params3] at ht
        have hm : t ∈ [24, 2, 2] := by simpa using Array.mem_of_getElem? ht
        have hall : ([24, 2, 2].all fun u => !Ybad.prog.wantsStandIn u) = true := by kernel_rfl
        exact (show Ybad.prog.wantsStandIn t = false by simpa using List.all_eq_true.1 hall t hm)⟩)
    (by kernel_rfl)
end Go.Proofs.YbulkcakaDoor.lawS3835AGiveBack
