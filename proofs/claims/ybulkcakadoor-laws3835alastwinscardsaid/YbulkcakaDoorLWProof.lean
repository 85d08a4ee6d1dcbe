import Derived.Test.YbulkcakaDoorGBOpen
namespace Go.Proofs.YbulkcakaDoor.lawS3835ALastWins
open Go.ChangeShapes Go.WideShapes Go.ChangeAt Go.RowKit
set_option linter.unusedVariables false
set_option maxRecDepth 10000

set_option maxRecDepth 100000 in
theorem lifted (os : Os) (started : os.Started) (H : Type) (enc : TypeId × Value → H) :
    ReturnsInHanded {} Ybad.checked os 4 .any (fun w args => (Rows.lawS3835ALastWinsSpec.pre enc Ybad.prog Ybad.f4 [] false w args ∧ laidMetH Ybad.prog Rows.lawS3835ALastWinsRow.laid w) ∧ sizedMet enc Ybad.prog Ybad.f4 (OpenSpec.ofChange Rows.lawS3835ALastWinsSpec) false w args)
      (Rows.lawS3835ALastWinsSpec.post enc Ybad.prog Ybad.f4 false true false false) := by
  refine returnsInHanded_of_change_and (C := Ybad.checked) (X := fun w _ => laidMetH Ybad.prog Rows.lawS3835ALastWinsRow.laid w) (fun _ _ _ hh h => h.of_heap hh) GB.own started (by kernel_rfl) Ybad.func4
    (ChangeSpec.witness_shaped (enc := enc) (C := Ybad.checked) (os := os) (X := fun w _ => laidMetH Ybad.prog Rows.lawS3835ALastWinsRow.laid w) false (World.laidAll Ybad.prog os Rows.lawS3835ALastWinsRow.laid) #[GB.argC 0 0 0 false 0 ⟨#[]⟩ 0 0 false false 0 false, .int .u32 0, .int .u32 0, .int .i64 0] 8 (World.laidAll_os _ _ _)
      (World.shaped_of_ZipB (by kernel_rfl) (by kernel_rfl)) (by kernel_rfl) (by kernel_rfl) (by kernel_rfl)
      (by rw [MakeChecks.laidMetH_plain _ _ _ (by kernel_rfl)]; exact laidMet_laidAll _ (by kernel_rfl) (by kernel_rfl))) ?_
  intro W base args ds gs before hval0 hW _ _ hL _
  have hval : ∀ (j : Nat) t v, Ybad.f4.params[j]? = some t → args[j]? = some v → Value.okWide Ybad.prog W .any base t v := hval0
  have hW' := hW
  obtain ⟨p, q, hA0, hV, rfl, hfz, hnd⟩ := hW
  have hA : DataW.TrodAll enc Ybad.prog W 0 (fun _ => true) true Ybad.f4.params.toList args.toList ds p := hA0
  rw [Ybad.params4] at hA hval
  obtain ⟨v0, vs0, d0, ds0, p0, q0, hargs, rfl, rfl, h0, r0⟩ := trodAll_cons hA
  obtain ⟨v1, vs1, d1, ds1, p1, q1, rfl, rfl, rfl, h1, r1⟩ := trodAll_cons r0
  obtain ⟨v2, vs2, d2, ds2, p2, q2, rfl, rfl, rfl, h2, r2⟩ := trodAll_cons r1
  obtain ⟨v3, vs3, d3, ds3, p3, q3, rfl, rfl, rfl, h3, r3⟩ := trodAll_cons r2
  obtain ⟨rfl, rfl, rfl⟩ := trodAll_nil r3
  obtain rfl : args = #[v0, v1, v2, v3] := by cases args; simp_all
  obtain ⟨rfl, rfl⟩ := trodVars_none hV
  obtain ⟨cs0, rfl, hc0⟩ := okWide_struct Ybad.underlying24 (hval 0 24 v0 rfl rfl)
  have k0 := h0
  have lt0 : ∀ x ∈ p0, x.block < W.heap.size := by obtain ⟨m, hm⟩ := k0; exact DataW.trod_lt m _ _ _ hm
  obtain ⟨fuel, hf⟩ := h0
  obtain ⟨b, mx, pr, ng, sm, dg, ex, fl, fe, ft, gb, og, hcs, hdg⟩ := GB.open_c hf
  obtain rfl : cs0 = #[.int .i64 b, .int .i64 mx, .int .i64 pr, .bool ng, .int .u64 sm, .string dg, .int .i32 ex, .int .i64 fl, .bool fe, .bool ft, .int .i64 gb, .bool og] := by
    cases cs0; simp [Value.cells] at hcs; subst hcs; rfl
  obtain ⟨a1, rfl, rfl, rfl, w1⟩ := open_int Ybad.underlying46 (hval 1 46 v1 rfl rfl) h1
  obtain ⟨a2, rfl, rfl, rfl, w2⟩ := open_int Ybad.underlying46 (hval 2 46 v2 rfl rfl) h2
  obtain ⟨a3, rfl, rfl, rfl, w3⟩ := open_int Ybad.underlying2 (hval 3 2 v3 rfl rfl) h3
  have b1 : 0 ≤ a1 ∧ a1 ≤ 4294967295 := by simpa [Lit.wf, IntKind.min, IntKind.max, IntKind.signed, IntKind.bits] using w1
  have b2 : 0 ≤ a2 ∧ a2 ≤ 4294967295 := by simpa [Lit.wf, IntKind.min, IntKind.max, IntKind.signed, IntKind.bits] using w2
  have hw : Calls Ybad.prog 4 #[GB.argC b mx pr ng sm dg ex fl fe ft gb og, .int .u32 a1, .int .u32 a2, .int .i64 a3] W fun e w' => e = .returned (.bool true) ∧ Below W.heap.size W w' := by
    cases og
    · exact GB.lastWins_false b mx pr ng sm dg ex fl fe ft gb a1 a2 a3 b1.1 b1.2 b2.1 b2.2 W
    · exact GB.lastWins_true b mx pr ng sm dg ex fl fe ft gb a1 a2 a3 b1.1 b1.2 b2.1 b2.2 W
  clear hA0 hval0
  refine hw.mono fun e W' ⟨he, bel⟩ => ?_
  subst he
  exact ⟨_, rfl, _, _, _, [], _, [], hW', trodAll_mk1 (shut_bool Ybad.underlying4 _), (trodAll_cons_mk (Below.trod GB.laidOut (by kernel_rfl) (of_decide_eq_true (by kernel_rfl)) k0 bel lt0) (trodAll_cons_mk (shut_int Ybad.underlying46 w1) (trodAll_cons_mk (shut_int Ybad.underlying46 w2) (trodAll_cons_mk (shut_int Ybad.underlying2 w3) trodAll_mk0)))), rfl, bel.frame _, fun h => by cases h⟩

theorem over : Rows.LawS3835ALastWinsSaid :=
  OpenClaim.holds_of_wide 4 Ybad.f4 rfl rfl rfl rfl rfl rfl rfl ⟨rfl, rfl, rfl, rfl, rfl⟩ rfl rfl rfl rfl rfl (by kernel_rfl) Ybad.func4 (by kernel_rfl)
    (of_decide_eq_true (by kernel_rfl)) (by unfold Func.isWrapper; first | (rw [if_pos (by decide +kernel)]; kernel_rfl) | (rw [if_neg (by decide +kernel)]; exact ⟨rfl, rfl⟩))
    (fun os started H enc _ => lifted os started H enc)

theorem proved : Rows.LawS3835ALastWinsCardSaid :=
  Claim7.holds_tied_plain_at .later [] [.data, .data, .data] true (true, "afe67d3955cda2903ac29e1e44f5089d3e1b7ba746b98be61ad0b361703e6c76") true
    over (fun _ h => by cases h) (by kernel_rfl) (fun _ h => by cases h) lawS3835ALastWins_row_tie rfl ⟨rfl, rfl⟩ (by kernel_rfl) rfl
    (fun f fn hf hfn => by
      obtain rfl : f = 4 := Option.some.inj ((show Ybad.prog.funcNamed "example.com/headroom/headroom.LawS3835ALastWins" = some 4 by kernel_rfl).symm.trans hf) |>.symm
      obtain rfl : fn = Ybad.f4 := (Option.some.inj (Ybad.func4.symm.trans hfn)).symm
      exact ⟨by kernel_rfl, fun j t ht => by
        rw [Ybad.params4] at ht
        have hm : t ∈ [24, 46, 46, 2] := by simpa using Array.mem_of_getElem? ht
        have hall : ([24, 46, 46, 2].all fun u => !Ybad.prog.wantsStandIn u) = true := by kernel_rfl
        exact (show Ybad.prog.wantsStandIn t = false by simpa using List.all_eq_true.1 hall t hm)⟩)
    (by kernel_rfl)
end Go.Proofs.YbulkcakaDoor.lawS3835ALastWins
