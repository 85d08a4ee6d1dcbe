import Derived.Test.YbulkcajmBMCurrent
namespace Go.Proofs.Ybulkcajm.BM
open Go.RowKit Ext
set_option maxRecDepth 10000
set_option linter.unusedSimpArgs false
set_option linter.unusedVariables false

set_option maxHeartbeats 400000 in
theorem law_long (a : Option Addr) (n c : Nat) (now : Int) (w : World) (hn : 1024 < n) (hm : n ≤ maxLen) :
    Calls Yba.prog 3 #[.slice a n c, .int .i64 now] w fun e w' => e = .returned (.bool true) ∧ Below w.heap.size w w' := by
  unfold maxLen at hm
  have hd : (1024 : Int) < (n : Int) := by omega
  go_enter Yba.func3, Yba.ntmps3
  go_wp2_with fail
  go_ret
  exact ⟨rfl, Below.refl _ _⟩

theorem info4' : (Yba.prog.info? 4).map (fun i => (i.zero, i.size, i.bytes)) = some (some (.bool false), 1, 1) := by kernel_rfl

set_option maxHeartbeats 1000000 in
theorem law_zero (a : Option Addr) (c : Nat) (now : Int) (w : World) (w0 : -9223372036854775808 ≤ now) (w1 : now ≤ 9223372036854775807) :
    Calls Yba.prog 3 #[.slice a 0 c, .int .i64 now] w fun e w' => e = .returned (.bool true) ∧ Below w.heap.size w w' := by
  obtain ⟨i0, hi, hz0, hz1, hz2⟩ := info_parts info25
  obtain ⟨j0, hj, hy0, hy1, hy2⟩ := info_parts info4'
  go_enter Yba.func3, Yba.ntmps3
  go_wp2_with fail
  refine (build_zero a c (fun _ => 0) (fun _ => 0) (fun _ => 0) (fun _ => 0) w).mono ?_
  rintro e wb ⟨mp, rfl, hM, hB⟩
  go_wp2_with (at_make; refine wpList_make_full _ rfl _ _ 23 rfl wb.heap.size 25 i0 _ 1 Yba.underlying23 hi hz0 hz1 _ _ _ _ 0 rfl rfl rfl rfl (by rw [hz2]; omega) (by unfold maxLen; omega) (Nat.le_refl _) ?_)
  intro ws hown hgrow
  have hBs : Below wb.heap.size wb ws := (Below.refl _ _).grown hgrow (Nat.le_refl _) (fun k hk => by cases hk)
  have HM := hid hM
  have HB := hid hB
  have HBs := hid hBs
  clear hown hgrow hM hB hBs
  go_wp2_with fail
  refine wp_loop_rounds 1 ?_
  rw [rounds_succ]
  go_wp2_with fail
  refine (add_zero' now w0 w1 _).mono ?_
  rintro e wc ⟨rfl, hBc⟩
  go_wp2_with fail
  have HMc : Mans wc (w.heap.size + 1) 0 0 mp (fun _ => 0) (fun _ => 0) (fun _ => 0) (fun _ => 0) := by
    obtain ⟨⟨cur, hh, r⟩, _⟩ := HM.out
    have h1 := (HBs.out.block _ (block_lt hh)).trans hh
    exact ⟨⟨cur, (hBc.block _ (block_lt h1)).trans h1, r⟩, fun j hj => by omega⟩
  refine (current_any (w.heap.size + 1) 0 (fun _ => 0) (fun _ => 0) (fun _ => 0) (fun _ => 0) now mp wc (by omega) (fun j hj => by omega) HMc).mono ?_
  rintro e wd ⟨v, rfl, hown, hBd⟩
  obtain ⟨ao, cap, hv, hao⟩ := own_form (xs := ([] : List Value)) hown
  subst hv
  have Hd := hid (HB.out.trans ((HBs.out.trans ((hBc.mono HBs.out.size).trans (hBd.mono (Nat.le_trans HBs.out.size hBc.size)))).mono HB.out.size))
  have hws := Hd.out.size
  clear hown hao hBd hBc HM HB HBs HMc
  go_wp2_with (at_make; refine wpList_make_full _ rfl _ _ 33 rfl wd.heap.size 4 j0 _ 1 Yba.underlying33 hj hy0 hy1 _ _ _ _ 0 rfl rfl rfl rfl (by rw [hy2]; omega) (by unfold maxLen; omega) (Nat.le_refl _) ?_)
  intro wi hown hgrow
  have Hf := hid (Hd.out.grown hgrow hws (fun k hk => by cases hk))
  clear hown hgrow Hd hz0 hz1 hz2 hi hy0 hy1 hy2 hj
  go_wp2_with fail
  refine wp_loop_rounds 1 ?_
  rw [rounds_succ]
  go_wp2_with fail
  refine wp_loop_rounds 1 ?_
  rw [rounds_succ]
  go_wp2_with fail
  refine wp_loop_rounds 1 ?_
  rw [rounds_succ]
  go_wp2_with fail
  go_ret
  exact ⟨rfl, Hf.out⟩
end Go.Proofs.Ybulkcajm.BM
