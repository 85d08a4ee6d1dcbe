import Derived.Test.YbulkcamsDoorKPOne
import Derived.Test.YbulkcamsDoorTie
import Derived.Test.YbulkcamsDoorCards
import Derived.ProofKit
import Derived.LaidMore
import Derived.OpenShut
import Derived.OpenVars
import Derived.ShutString
import Derived.ChangeOld
import Derived.Below
import Derived.Stop.Joined
import Derived.SevenTiedAt
import Derived.Lay
import Derived.ChangeMaps5
namespace Go.Proofs.YbulkcamsDoor.lawS3840CKeepOne
open Go.ChangeShapes Go.WideShapes Go.ChangeAt Go.RowKit
set_option linter.unusedVariables false
set_option maxRecDepth 10000

theorem own : ownKnob Ybad.prog.godebug = none := by kernel_rfl
theorem laidOut : laidOutB Ybad.prog = true := by kernel_rfl
theorem grk : Ybad.prog.globalNamed "example.com/gatewright/gatewright.replyKept" = some 0 := by kernel_rfl
theorem trk : (Ybad.prog.globals[0]?).map (·.type) = some 48 := by kernel_rfl

/-- What the listed variable holds. -/
theorem of_laid {W : World} (h : laidMetH Ybad.prog Rows.lawS3840CKeepOneRow.laid W) : W.cell? ⟨0, 0, none⟩ = some (.int .i64 90000000000) := by
  rw [MakeChecks.laidMetH_plain _ _ _ (by kernel_rfl)] at h
  obtain ⟨ps, ⟨g0, t0, cs0, f0, p0, q0, hg0, ht0, hv0, hd0, _⟩, _, _⟩ := h
  obtain rfl := Option.some.inj (grk.symm.trans hg0)
  obtain rfl := Option.some.inj (trk.symm.trans ht0)
  obtain ⟨z, hz, hd, _⟩ := DataW.trod_int Ybad.underlying48 hd0
  have := World.var?_cell hg0 hv0 0
  rw [this]
  obtain ⟨l⟩ := cs0
  simp at hz
  subst hz
  have : z = 90000000000 := by
    simp [Rows.laid_example_com_gatewright_gatewright_replyKept] at hd
    exact hd.1.symm
  subst this
  rfl

/-- WHAT THE WALK IS TOLD OF A SLICE OF INTEGERS THAT CAME IN. -/
def IsRow (k : IntKind) (w : World) (a : Option Addr) (len cap : Nat) (zs : List Int) : Prop :=
  (a = none ∧ len = 0 ∧ cap = 0 ∧ zs = []) ∨
  ∃ x, a = some x ∧ len ≤ cap ∧ cap ≤ maxLen ∧ zs.length = cap ∧ (∀ i, i < zs.length → w.cell? (x.add i) = some (.int k (zs.getD i 0))) ∧ ∀ n ∈ zs, (Lit.int k n).wf = true

theorem okU_getD {zs : List Int} (h : ∀ n ∈ zs, (Lit.int .u32 n).wf = true) (i : Nat) : KP.okU (zs.getD i 0) := by
  rw [List.getD_eq_getElem?_getD]
  cases hg : zs[i]? with
  | none => simp [KP.okU, Lit.wf, IntKind.min, IntKind.max, IntKind.signed, IntKind.bits]
  | some v => exact h v (List.mem_of_getElem? hg)

theorem walk (d : Int) (mid : ByteArray) (a0 : Option Addr) (len0 cap0 : Nat) (z0 : List Int) (text : Int) (big : Bool) (w : World) (wd : (Lit.int .i64 d).wf = true) (ws : mid.size ≤ maxLen) (w0 : IsRow .u32 w a0 len0 cap0 z0) (hg : w.cell? ⟨0, 0, none⟩ = some (.int .i64 90000000000)) :
    Calls Ybad.prog 3 #[.int .i64 d, .string mid, .slice a0 len0 cap0, .int .i64 text, .bool big] w fun e w' => e = .returned (.bool true) ∧ Below w.heap.size w w' := by
  have bd : -9223372036854775808 ≤ d ∧ d ≤ 9223372036854775807 := by simpa [Lit.wf, IntKind.min, IntKind.max, IntKind.signed, IntKind.bits] using wd
  by_cases h1 : 1024 < len0
  · exact KP.one_long a0 len0 cap0 d text mid big w h1
  by_cases h2 : text < -1073741824
  · exact KP.one_low a0 len0 cap0 d text mid big w h1 h2
  by_cases h3 : 1073741824 < text
  · exact KP.one_high a0 len0 cap0 d text mid big w h1 h2 h3
  by_cases h0 : len0 = 0
  · subst h0
    cases big
    · exact KP.zero_false a0 cap0 d text mid w bd.1 bd.2 (by omega) (by omega)
    · exact KP.zero_true a0 cap0 d text mid w bd.1 bd.2 (by omega) (by omega)
  rcases w0 with ⟨rfl, rfl, rfl, rfl⟩ | ⟨x, rfl, g1, g2, g3, hc, hwz⟩
  · exact absurd rfl h0
  obtain ⟨b, off, sp⟩ := x
  have hsp : sp = none := by simpa [Addr.add] using World.cell?_spot (hc 0 (by omega))
  subst hsp
  have hI : KP.Ids w b off len0 (fun j => z0.getD j 0) := fun j hj => by
    refine ⟨by rw [← Addr.add_lit]; exact hc j (by omega), ?_⟩
    have := okU_getD hwz j
    have : 0 ≤ z0.getD j 0 ∧ z0.getD j 0 ≤ 4294967295 := by simpa [KP.okU, Lit.wf, IntKind.min, IntKind.max, IntKind.signed, IntKind.bits] using this
    exact ⟨this.1, by show z0.getD j 0 < 4294967296; omega⟩
  cases big
  · exact KP.one_false b off len0 cap0 d text mid _ w (by omega) (by omega) bd.1 bd.2 (by omega) (by omega) ws hI (okU_getD hwz) hg
  · exact KP.one_true b off len0 cap0 d text mid _ w (by omega) (by omega) bd.1 bd.2 (by omega) (by omega) ws hI (okU_getD hwz) hg

set_option maxRecDepth 100000 in
theorem lifted (os : Os) (started : os.Started) (H : Type) (enc : TypeId × Value → H) :
    ReturnsInHanded {} Ybad.checked os 3 .any (fun w args => (Rows.lawS3840CKeepOneSpec.pre enc Ybad.prog Ybad.f3 [] false w args ∧ laidMetH Ybad.prog Rows.lawS3840CKeepOneRow.laid w) ∧ sizedMet enc Ybad.prog Ybad.f3 (OpenSpec.ofChange Rows.lawS3840CKeepOneSpec) false w args)
      (Rows.lawS3840CKeepOneSpec.post enc Ybad.prog Ybad.f3 false true false false) := by
  refine returnsInHanded_of_change_and (C := Ybad.checked) (X := fun w _ => laidMetH Ybad.prog Rows.lawS3840CKeepOneRow.laid w) (fun _ _ _ hh h => h.of_heap hh) own started (by kernel_rfl) Ybad.func3
    (ChangeSpec.witness_shaped (enc := enc) (C := Ybad.checked) (os := os) (X := fun w _ => laidMetH Ybad.prog Rows.lawS3840CKeepOneRow.laid w) false (World.laidAll Ybad.prog os Rows.lawS3840CKeepOneRow.laid) #[.int .i64 0, .string ⟨#[]⟩, .slice none 0 0, .int .i64 0, .bool false] 8 (World.laidAll_os _ _ _)
      (World.shaped_of_ZipB (by kernel_rfl) (by kernel_rfl)) (by kernel_rfl) (by kernel_rfl) (by kernel_rfl)
      (by rw [MakeChecks.laidMetH_plain _ _ _ (by kernel_rfl)]; exact laidMet_laidAll _ (by kernel_rfl) (by kernel_rfl))) ?_
  intro W base args ds gs before hval0 hW _ _ hL _
  have hval : ∀ (j : Nat) t v, Ybad.f3.params[j]? = some t → args[j]? = some v → Value.okWide Ybad.prog W .any base t v := hval0
  have hW' := hW
  obtain ⟨p, q, hA0, hV, rfl, hfz, hnd⟩ := hW
  have hA : DataW.TrodAll enc Ybad.prog W 0 (fun _ => true) true Ybad.f3.params.toList args.toList ds p := hA0
  rw [Ybad.params3] at hA hval
  obtain ⟨v0, vs0, d0, ds0, p0, q0, hargs, rfl, rfl, h0, r0⟩ := trodAll_cons hA
  obtain ⟨v1, vs1, d1, ds1, p1, q1, rfl, rfl, rfl, h1, r1⟩ := trodAll_cons r0
  obtain ⟨v2, vs2, d2, ds2, p2, q2, rfl, rfl, rfl, h2, r2⟩ := trodAll_cons r1
  obtain ⟨v3, vs3, d3, ds3, p3, q3, rfl, rfl, rfl, h3, r3⟩ := trodAll_cons r2
  obtain ⟨v4, vs4, d4, ds4, p4, q4, rfl, rfl, rfl, h4, r4⟩ := trodAll_cons r3
  obtain ⟨rfl, rfl, rfl⟩ := trodAll_nil r4
  obtain rfl : args = #[v0, v1, v2, v3, v4] := by cases args; simp_all
  obtain ⟨g, rfl⟩ : ∃ g, gs = [g] := by obtain ⟨_, _, _, _, g, _, e, _⟩ := trodVars_one hV; exact ⟨g, e⟩
  obtain ⟨a0, rfl, rfl, rfl, w0⟩ := open_int Ybad.underlying2 (hval 0 2 v0 rfl rfl) h0
  obtain ⟨a1, rfl, rfl, rfl, w1⟩ := ChangeMaps.open_string Ybad.underlying9 (hval 1 9 v1 rfl rfl) h1
  obtain ⟨a2, len2, cap2, rfl⟩ := okWide_slice Ybad.underlying22 (hval 2 22 v2 rfl rfl)
  have k2 := h2
  have lt2 : ∀ x ∈ p2, x.block < W.heap.size := by obtain ⟨m, hm⟩ := k2; exact DataW.trod_lt m _ _ _ hm
  obtain ⟨z2, w2⟩ : ∃ zs, IsRow .u32 W a2 len2 cap2 zs := by
    obtain ⟨fuel, hf⟩ := h2
    rcases open_ints Ybad.underlying22 Ybad.underlying62 (by kernel_rfl) hf with ⟨hcs, _⟩ | ⟨x, l, c, zs, hcs, _, hl, hm, hz, _, hcell, hwz⟩
    · simp [Value.cells] at hcs
      obtain ⟨rfl, rfl, rfl⟩ := hcs
      exact ⟨[], .inl ⟨rfl, rfl, rfl, rfl⟩⟩
    · simp [Value.cells] at hcs
      obtain ⟨rfl, rfl, rfl⟩ := hcs
      exact ⟨zs, .inr ⟨_, rfl, hl, hm, by simpa using hz, hcell, hwz⟩⟩
  obtain ⟨a3, rfl, rfl, rfl, w3⟩ := open_int Ybad.underlying3 (hval 3 3 v3 rfl rfl) h3
  obtain ⟨a4, rfl, rfl, rfl⟩ := open_bool Ybad.underlying4 (hval 4 4 v4 rfl rfl) h4
  clear hA0 hval0
  refine (walk a0 a1 a2 len2 cap2 z2 a3 a4 W w0 w1 w2 (of_laid hL)).mono fun e W' ⟨he, bel⟩ => ?_
  subst he
  exact ⟨_, rfl, _, _, _, [], _, _, hW', trodAll_mk1 (shut_bool Ybad.underlying4 _), (trodAll_cons_mk (shut_int Ybad.underlying2 w0) (trodAll_cons_mk (ChangeMaps.shut_string Ybad.underlying9 w1) (trodAll_cons_mk (Below.trod laidOut (by kernel_rfl) (of_decide_eq_true (by kernel_rfl)) k2 bel lt2) (trodAll_cons_mk (shut_int Ybad.underlying3 w3) (trodAll_cons_mk (shut_bool Ybad.underlying4 _) trodAll_mk0))))), Below.trodVars laidOut bel (by kernel_rfl) hV, bel.frame _, fun h => by cases h⟩

theorem over : Rows.LawS3840CKeepOneSaid :=
  OpenClaim.holds_of_wide 3 Ybad.f3 rfl rfl rfl rfl rfl rfl rfl ⟨rfl, rfl, rfl, rfl, rfl⟩ rfl rfl rfl rfl rfl (by kernel_rfl) Ybad.func3 (by kernel_rfl)
    (of_decide_eq_true (by kernel_rfl)) (by unfold Func.isWrapper; first | (rw [if_pos (by decide +kernel)]; kernel_rfl) | (rw [if_neg (by decide +kernel)]; exact ⟨rfl, rfl⟩))
    (fun os started H enc _ => lifted os started H enc)

theorem proved : Rows.LawS3840CKeepOneCardSaid :=
  Claim7.holds_tied_plain_at .later [] [.wider] true (true, "a454e3a985ad08a2139d6c3c539538350d21bfa25328008b7a0d44e19230aa1d") true
    over (fun _ h => by cases h) (by kernel_rfl) (fun _ h => by cases h) lawS3840CKeepOne_row_tie rfl ⟨rfl, rfl⟩ (by kernel_rfl) rfl
    (fun f fn hf hfn => by
      obtain rfl : f = 3 := Option.some.inj ((show Ybad.prog.funcNamed "example.com/gatewright/gatewright.LawS3840CKeepOne" = some 3 by kernel_rfl).symm.trans hf) |>.symm
      obtain rfl : fn = Ybad.f3 := (Option.some.inj (Ybad.func3.symm.trans hfn)).symm
      exact ⟨by kernel_rfl, fun j t ht => by
        rw [Ybad.params3] at ht
        have hm : t ∈ [2, 9, 22, 3, 4] := by simpa using Array.mem_of_getElem? ht
        have hall : ([2, 9, 22, 3, 4].all fun u => !Ybad.prog.wantsStandIn u) = true := by kernel_rfl
        exact (show Ybad.prog.wantsStandIn t = false by simpa using List.all_eq_true.1 hall t hm)⟩)
    (by kernel_rfl)
end Go.Proofs.YbulkcamsDoor.lawS3840CKeepOne
