import Derived.Test.YbulkcakaDoorCFEdge
import Derived.Test.YbulkcakaDoorCFLaw
import Derived.Test.YbulkcakaDoorTie
import Derived.Test.YbulkcakaDoorCards
import Derived.ProofKit
import Derived.LaidMore
import Derived.OpenShut
import Derived.ShutString
import Derived.ChangeOld
import Derived.Below
import Derived.Stop.Joined
import Derived.Deep.Slices
import Derived.SevenTiedAt
import Derived.Lay
import Derived.ChangeMaps5
namespace Go.Proofs.YbulkcakaDoor.lawS3835CForgets
open Go.ChangeShapes Go.WideShapes Go.ChangeAt Go.RowKit
open Go.Deep (open_slice choose_lt add_add)
set_option linter.unusedVariables false
set_option maxRecDepth 10000

theorem own : ownKnob Ybad.prog.godebug = none := by kernel_rfl
theorem laidOut : laidOutB Ybad.prog = true := by kernel_rfl
theorem cells54 : Ybad.prog.cellsOf 54 = 5 := by kernel_rfl
theorem cells9 : Ybad.prog.cellsOf 9 = 1 := by kernel_rfl
theorem cells51 : Ybad.prog.cellsOf 51 = 1 := by kernel_rfl
theorem cells52 : Ybad.prog.cellsOf 52 = 1 := by kernel_rfl
theorem cells4 : Ybad.prog.cellsOf 4 = 1 := by kernel_rfl
theorem cells62 : Ybad.prog.cellsOf 62 = 1 := by kernel_rfl
theorem gz4 : Ybad.prog.globalNamed "net/netip.z4" = some 4 := by kernel_rfl
theorem tz4 : (Ybad.prog.globals[4]?).map (·.type) = some 64 := by kernel_rfl

/-- What the listed variable gives: a pointer. -/
theorem of_laid {W : World} (h : laidMetH Ybad.prog Rows.lawS3835CForgetsRow.laid W) : ∃ a, W.cell? ⟨4, 0, none⟩ = some (.pointer (some a)) := by
  rw [MakeChecks.laidMetH_plain _ _ _ (by kernel_rfl)] at h
  obtain ⟨ps, ⟨g0, t0, cs0, f0, p0, q0, hg0, ht0, hv0, hd0, _⟩, _, _⟩ := h
  obtain rfl := Option.some.inj (gz4.symm.trans hg0)
  obtain rfl := Option.some.inj (tz4.symm.trans ht0)
  obtain ⟨xs, k, hk, hxy, hlen, hxl, hf⟩ := DataW.trod_struct Ybad.underlying64 hd0
  match xs, hxl with
  | [y0], _ =>
    have g0 := hf 0 _ rfl
    simp [cells62] at g0
    rcases DataW.trod_pointer Ybad.underlying62 g0 with ⟨_, hx⟩ | ⟨a, cs', y, n, _, hcs, _⟩
    · rw [hx] at hxy
      simp [Rows.laid_net_netip_z4] at hxy
    · refine ⟨a, ?_⟩
      have := World.var?_cell hg0 hv0 0
      rw [this]
      obtain ⟨l⟩ := cs0
      match l, hcs with
      | c :: r, hcs => simp at hcs ⊢; exact hcs

theorem open_nodes {H : Type} {enc : TypeId × Value → H} {W : World} {base : Nat} {sp : Nat → Bool} {held : Bool} {fuel : Nat} {cs : List Value} {x : DataW H × List MemPlace}
    (h : DataW.trod enc Ybad.prog W base sp held fuel 48 cs = some x) :
    cs = [.slice none 0 0] ∨ ∃ (a : Addr) (len cap : Nat) (q : Nat → ByteArray × Int × Int × Int × Bool), cs = [.slice (some a) len cap] ∧ len ≤ cap ∧ cap ≤ maxLen ∧
      ∀ j, j < len → (W.cell? (a.add (j * 5)) = some (.string (q j).1) ∧ W.cell? (a.add (j * 5 + 1)) = some (.int .u16 (q j).2.1) ∧ W.cell? (a.add (j * 5 + 2)) = some (.int .i16 (q j).2.2.1) ∧ W.cell? (a.add (j * 5 + 3)) = some (.int .u16 (q j).2.2.2.1) ∧ W.cell? (a.add (j * 5 + 4)) = some (.bool (q j).2.2.2.2)) ∧
        (q j).1.size ≤ maxLen ∧ (Lit.int .u16 (q j).2.1).wf = true ∧ (Lit.int .i16 (q j).2.2.1).wf = true ∧ (Lit.int .u16 (q j).2.2.2.1).wf = true := by
  rcases open_slice Ybad.underlying48 h with ⟨h0, _⟩ | ⟨a, len, cap, m, n, D, Pl, rfl, hb, hl, hm, hmm, rfl, hx⟩
  · exact .inl h0
  right
  have hlm : len ≤ m := by rw [hmm]; split <;> omega
  have each : ∀ j, j < len → ∃ q : ByteArray × Int × Int × Int × Bool, (W.cell? (a.add (j * 5)) = some (.string q.1) ∧ W.cell? (a.add (j * 5 + 1)) = some (.int .u16 q.2.1) ∧ W.cell? (a.add (j * 5 + 2)) = some (.int .i16 q.2.2.1) ∧ W.cell? (a.add (j * 5 + 3)) = some (.int .u16 q.2.2.2.1) ∧ W.cell? (a.add (j * 5 + 4)) = some (.bool q.2.2.2.2)) ∧
        q.1.size ≤ maxLen ∧ (Lit.int .u16 q.2.1).wf = true ∧ (Lit.int .i16 q.2.2.1).wf = true ∧ (Lit.int .u16 q.2.2.2.1).wf = true := by
    intro j hj
    obtain ⟨cs', h1, h2⟩ := hx j (by omega)
    rw [cells54] at h1
    obtain ⟨_, hlen, hcell⟩ := World.cells?_some h1
    obtain ⟨xs, k, hk, hxy, _, hxl, hf⟩ := DataW.trod_struct Ybad.underlying54 h2
    match xs, hxl, cs', hlen with
    | [y0, y1, y2, y3, y4], _, [v0, v1, v2, v3, v4], _ =>
      have g0 := hf 0 _ rfl
      have g1 := hf 1 _ rfl
      have g2 := hf 2 _ rfl
      have g3 := hf 3 _ rfl
      have g4 := hf 4 _ rfl
      simp [cells9, cells51, cells52, cells4] at g0 g1 g2 g3 g4
      obtain ⟨z0, e0, -, w0⟩ := DataW.trod_string Ybad.underlying9 g0
      obtain ⟨z1, e1, -, w1⟩ := DataW.trod_int Ybad.underlying51 g1
      obtain ⟨z2, e2, -, w2⟩ := DataW.trod_int Ybad.underlying52 g2
      obtain ⟨z3, e3, -, w3⟩ := DataW.trod_int Ybad.underlying51 g3
      obtain ⟨z4, e4, -⟩ := DataW.trod_bool Ybad.underlying4 g4
      simp at e0 e1 e2 e3 e4
      subst e0; subst e1; subst e2; subst e3; subst e4
      have c0 := hcell 0 (by omega)
      have c1 := hcell 1 (by omega)
      have c2 := hcell 2 (by omega)
      have c3 := hcell 3 (by omega)
      have c4 := hcell 4 (by omega)
      rw [add_add] at c0 c1 c2 c3 c4
      exact ⟨(z0, z1, z2, z3, z4), ⟨by simpa using c0, by simpa using c1, by simpa using c2, by simpa using c3, by simpa using c4⟩, w0, w1, w2, w3⟩
  obtain ⟨q, hq⟩ := choose_lt each
  exact ⟨a, len, cap, q, rfl, hl, hm, hq⟩

def Held (W : World) (a0 : Option Addr) (len0 cap0 : Nat) : Prop :=
  (a0 = none ∧ len0 = 0 ∧ cap0 = 0) ∨ ∃ (a : Addr) (q : Nat → ByteArray × Int × Int × Int × Bool), a0 = some a ∧ len0 ≤ cap0 ∧ cap0 ≤ maxLen ∧
      ∀ j, j < len0 → (W.cell? (a.add (j * 5)) = some (.string (q j).1) ∧ W.cell? (a.add (j * 5 + 1)) = some (.int .u16 (q j).2.1) ∧ W.cell? (a.add (j * 5 + 2)) = some (.int .i16 (q j).2.2.1) ∧ W.cell? (a.add (j * 5 + 3)) = some (.int .u16 (q j).2.2.2.1) ∧ W.cell? (a.add (j * 5 + 4)) = some (.bool (q j).2.2.2.2)) ∧
        (q j).1.size ≤ maxLen ∧ (Lit.int .u16 (q j).2.1).wf = true ∧ (Lit.int .i16 (q j).2.2.1).wf = true ∧ (Lit.int .u16 (q j).2.2.2.1).wf = true

theorem walk (za : Addr) (a0 : Option Addr) (len0 cap0 : Nat) (a1 : Int) (s : ByteArray) (w : World) (h : Held w a0 len0 cap0) (w1 : (Lit.int .u8 a1).wf = true) (hs : s.size ≤ maxLen) (hz : w.cell? ⟨4, 0, none⟩ = some (.pointer (some za))) :
    Calls Ybad.prog 5 #[.slice a0 len0 cap0, .int .u8 a1, .string s] w fun e w' => e = .returned (.bool true) ∧ Below w.heap.size w w' := by
  have b1 : 0 ≤ a1 ∧ a1 ≤ 255 := by simpa [Lit.wf, IntKind.min, IntKind.max, IntKind.signed, IntKind.bits] using w1
  have h4 : 4 < w.heap.size := World.block_lt_of_cell? w _ hz
  rcases h with ⟨rfl, rfl, rfl⟩ | ⟨a, q, rfl, hl, hm, hq⟩
  · exact CF.law_zero za none 0 a1 s w b1.1 b1.2 hs hz h4
  by_cases hn : 512 < len0
  · exact CF.law_long (some a) len0 cap0 a1 s w hn (by omega)
  by_cases h0 : len0 = 0
  · subst h0
    exact CF.law_zero za (some a) cap0 a1 s w b1.1 b1.2 hs hz h4
  obtain ⟨b, off, sp⟩ := a
  have hsp : sp = none := by
    have := World.cell?_spot (hq 0 (by omega)).1.1
    simpa [Addr.add] using this
  subst hsp
  have hc : CF.Nodes w b off len0 (fun j => (q j).1) (fun j => (q j).2.1) (fun j => (q j).2.2.1) (fun j => (q j).2.2.2.1) (fun j => (q j).2.2.2.2) := fun j hj => by
    obtain ⟨⟨c0, c1, c2, c3, c4⟩, _⟩ := hq j hj
    rw [Addr.add_lit] at c0 c1 c2 c3 c4
    exact ⟨c0, c1, c2, c3, c4⟩
  refine CF.law_pos za b off len0 cap0 _ _ _ _ _ a1 s w (by omega) (by omega) (World.block_lt_of_cell? w _ (hc 0 (by omega)).1) hc (fun j hj => ?_) b1.1 b1.2 hs hz h4
  obtain ⟨_, g0, g1, g2, g3⟩ := hq j hj
  have k1 : 0 ≤ (q j).2.1 ∧ (q j).2.1 ≤ 65535 := by simpa [Lit.wf, IntKind.min, IntKind.max, IntKind.signed, IntKind.bits] using g1
  have k2 : -32768 ≤ (q j).2.2.1 ∧ (q j).2.2.1 ≤ 32767 := by simpa [Lit.wf, IntKind.min, IntKind.max, IntKind.signed, IntKind.bits] using g2
  have k3 : 0 ≤ (q j).2.2.2.1 ∧ (q j).2.2.2.1 ≤ 65535 := by simpa [Lit.wf, IntKind.min, IntKind.max, IntKind.signed, IntKind.bits] using g3
  exact ⟨g0, k1, k2, k3⟩

set_option maxRecDepth 100000 in
theorem lifted (os : Os) (started : os.Started) (H : Type) (enc : TypeId × Value → H) :
    ReturnsInHanded {} Ybad.checked os 5 .any (fun w args => (Rows.lawS3835CForgetsSpec.pre enc Ybad.prog Ybad.f5 [] false w args ∧ laidMetH Ybad.prog Rows.lawS3835CForgetsRow.laid w) ∧ sizedMet enc Ybad.prog Ybad.f5 (OpenSpec.ofChange Rows.lawS3835CForgetsSpec) false w args)
      (Rows.lawS3835CForgetsSpec.post enc Ybad.prog Ybad.f5 false true false false) := by
  refine returnsInHanded_of_change_and (C := Ybad.checked) (X := fun w _ => laidMetH Ybad.prog Rows.lawS3835CForgetsRow.laid w) (fun _ _ _ hh h => h.of_heap hh) own started (by kernel_rfl) Ybad.func5
    (ChangeSpec.witness_shaped (enc := enc) (C := Ybad.checked) (os := os) (X := fun w _ => laidMetH Ybad.prog Rows.lawS3835CForgetsRow.laid w) false (World.laidAll Ybad.prog os Rows.lawS3835CForgetsRow.laid) #[.slice none 0 0, .int .u8 0, .string ⟨#[]⟩] 8 (World.laidAll_os _ _ _)
      (World.shaped_of_ZipB (by kernel_rfl) (by kernel_rfl)) (by kernel_rfl) (by kernel_rfl) (by kernel_rfl)
      (by rw [MakeChecks.laidMetH_plain _ _ _ (by kernel_rfl)]; exact laidMet_laidAll _ (by kernel_rfl) (by kernel_rfl))) ?_
  intro W base args ds gs before hval0 hW _ _ hL _
  have hval : ∀ (j : Nat) t v, Ybad.f5.params[j]? = some t → args[j]? = some v → Value.okWide Ybad.prog W .any base t v := hval0
  have hW' := hW
  obtain ⟨p, q, hA0, hV, rfl, hfz, hnd⟩ := hW
  have hA : DataW.TrodAll enc Ybad.prog W 0 (fun _ => true) true Ybad.f5.params.toList args.toList ds p := hA0
  rw [Ybad.params5] at hA hval
  obtain ⟨v0, vs0, d0, ds0, p0, q0, hargs, rfl, rfl, h0, r0⟩ := trodAll_cons hA
  obtain ⟨v1, vs1, d1, ds1, p1, q1, rfl, rfl, rfl, h1, r1⟩ := trodAll_cons r0
  obtain ⟨v2, vs2, d2, ds2, p2, q2, rfl, rfl, rfl, h2, r2⟩ := trodAll_cons r1
  obtain ⟨rfl, rfl, rfl⟩ := trodAll_nil r2
  obtain rfl : args = #[v0, v1, v2] := by cases args; simp_all
  obtain ⟨rfl, rfl⟩ := trodVars_none hV
  obtain ⟨a0, len0, cap0, rfl⟩ := okWide_slice Ybad.underlying48 (hval 0 48 v0 rfl rfl)
  have k0 := h0
  have lt0 : ∀ x ∈ p0, x.block < W.heap.size := by obtain ⟨m, hm⟩ := k0; exact DataW.trod_lt m _ _ _ hm
  obtain ⟨fuel, hf⟩ := h0
  obtain ⟨a1, rfl, rfl, rfl, w1⟩ := open_int Ybad.underlying5 (hval 1 5 v1 rfl rfl) h1
  obtain ⟨s, rfl, rfl, rfl, ws⟩ := ChangeMaps.open_string Ybad.underlying9 (hval 2 9 v2 rfl rfl) h2
  obtain ⟨za, hz⟩ := of_laid hL
  have hop : Held W a0 len0 cap0 := by
    rcases open_nodes hf with hcs | ⟨a, len, cap, q, hcs, hl, hm, hq⟩
    · simp [Value.cells] at hcs
      exact .inl hcs
    · simp [Value.cells] at hcs
      obtain ⟨rfl, rfl, rfl⟩ := hcs
      exact .inr ⟨a, q, rfl, hl, hm, hq⟩
  clear hA0 hval0
  refine (walk za a0 len0 cap0 a1 s W hop w1 ws hz).mono fun e W' ⟨he, bel⟩ => ?_
  subst he
  exact ⟨_, rfl, _, _, _, [], _, [], hW', trodAll_mk1 (shut_bool Ybad.underlying4 _), (trodAll_cons_mk (Below.trod laidOut (by kernel_rfl) (of_decide_eq_true (by kernel_rfl)) k0 bel lt0) (trodAll_cons_mk (shut_int Ybad.underlying5 w1) (trodAll_cons_mk (ChangeMaps.shut_string Ybad.underlying9 ws) trodAll_mk0))), rfl, bel.frame _, fun h => by cases h⟩

theorem over : Rows.LawS3835CForgetsSaid :=
  OpenClaim.holds_of_wide 5 Ybad.f5 rfl rfl rfl rfl rfl rfl rfl ⟨rfl, rfl, rfl, rfl, rfl⟩ rfl rfl rfl rfl rfl (by kernel_rfl) Ybad.func5 (by kernel_rfl)
    (of_decide_eq_true (by kernel_rfl)) (by unfold Func.isWrapper; first | (rw [if_pos (by decide +kernel)]; kernel_rfl) | (rw [if_neg (by decide +kernel)]; exact ⟨rfl, rfl⟩))
    (fun os started H enc _ => lifted os started H enc)

theorem proved : Rows.LawS3835CForgetsCardSaid :=
  Claim7.holds_tied_plain_at .later [] [.called, .zero] true (true, "afe67d3955cda2903ac29e1e44f5089d3e1b7ba746b98be61ad0b361703e6c76") true
    over (fun _ h => by cases h) (by kernel_rfl) (fun _ h => by cases h) lawS3835CForgets_row_tie rfl ⟨rfl, rfl⟩ (by kernel_rfl) rfl
    (fun f fn hf hfn => by
      obtain rfl : f = 5 := Option.some.inj ((show Ybad.prog.funcNamed "example.com/headroom/headroom.LawS3835CForgets" = some 5 by kernel_rfl).symm.trans hf) |>.symm
      obtain rfl : fn = Ybad.f5 := (Option.some.inj (Ybad.func5.symm.trans hfn)).symm
      exact ⟨by kernel_rfl, fun j t ht => by
        rw [Ybad.params5] at ht
        have hm : t ∈ [48, 5, 9] := by simpa using Array.mem_of_getElem? ht
        have hall : ([48, 5, 9].all fun u => !Ybad.prog.wantsStandIn u) = true := by kernel_rfl
        exact (show Ybad.prog.wantsStandIn t = false by simpa using List.all_eq_true.1 hall t hm)⟩)
    (by kernel_rfl)
end Go.Proofs.YbulkcakaDoor.lawS3835CForgets
