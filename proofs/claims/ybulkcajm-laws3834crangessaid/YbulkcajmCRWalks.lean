import Derived.Test.YbulkcajmCRAsids
namespace Go.Proofs.Ybulkcajm.CR
open Go.RowKit
set_option maxRecDepth 10000

theorem info53 : (Yba.prog.info? 53).map (fun i => (i.zero, i.size, i.bytes)) = some (some (.agg #[.string ByteArray.empty, .int .u32 0, .slice none 0 0]), 3, 48) := by kernel_rfl

/-- Block g is a row of n planned ROAs, none frozen, the first k laid. -/
def Roas (w : World) (g n k : Nat) (file : ByteArray) (z : Nat → Int) : Prop :=
  ∃ cur : Array Value, w.heap[g]? = some (.cells cur 53 (0, 0)) ∧ cur.size = n * 3 ∧
    ∀ j, j < k → cur[j * 3]? = some (.string file) ∧ cur[j * 3 + 1]? = some (.int .u32 (z j)) ∧ cur[j * 3 + 2]? = some (.slice none 0 0)

theorem Roas.start {w : World} {base g n : Nat} {xs : List Value} (file : ByteArray) (z : Nat → Int) (h : w.ownsRow base 53 3 (.slice (some ⟨g, 0, none⟩) n n) n xs) : Roas w g n 0 file z := by
  rcases h.2 with ⟨h, _⟩ | ⟨g', cap, cur, hv, _, hh, _, _, hs, _⟩
  · cases h
  · cases hv
    exact ⟨cur, hh, hs, fun j hj => by omega⟩

theorem Roas.old {w : World} {g n k : Nat} {file : ByteArray} {z : Nat → Int} (h : Roas w g n k file z) (i : Nat) (hi : i < n * 3) : (∃ v, w.cell? ⟨g, i, none⟩ = some v) ∧ w.frozen? ⟨g, i, none⟩ = false := by
  obtain ⟨cur, hh, hs, _⟩ := h
  refine ⟨⟨cur[i], by simp [World.cell?, hh, hs, hi]⟩, by simp [World.frozen?, hh]⟩

theorem Roas.step {w : World} {g n k : Nat} {file : ByteArray} {z : Nat → Int} (h : Roas w g n k file z) (hk : k < n) :
    Roas (((w.setCell ⟨g, k * 3, none⟩ (.string file)).setCell ⟨g, k * 3 + 1, none⟩ (.int .u32 (z k))).setCell ⟨g, k * 3 + 2, none⟩ (.slice none 0 0)) g n (k + 1) file z := by
  obtain ⟨cur, hh, hs, hc⟩ := h
  refine ⟨((cur.setIfInBounds (k * 3) (.string file)).setIfInBounds (k * 3 + 1) (.int .u32 (z k))).setIfInBounds (k * 3 + 2) (.slice none 0 0), ?_, by simp [hs], ?_⟩
  · simp [World.setCell, Array.getElem?_modify, hh]
  · intro j hj
    by_cases e : j = k
    · subst e
      refine ⟨?_, ?_, ?_⟩ <;> simp [Array.getElem?_setIfInBounds, hs] <;> omega
    · obtain ⟨a, b, c⟩ := hc j (by omega)
      refine ⟨?_, ?_, ?_⟩
      · rw [← a]; simp [Array.getElem?_setIfInBounds]; repeat (rw [if_neg (by omega)])
      · rw [← b]; simp [Array.getElem?_setIfInBounds]; repeat (rw [if_neg (by omega)])
      · rw [← c]; simp [Array.getElem?_setIfInBounds]; repeat (rw [if_neg (by omega)])

theorem Roas.kept {w w' : World} {g n k : Nat} {file : ByteArray} {z : Nat → Int} (h : Roas w g n k file z) (hb : w'.heap[g]? = w.heap[g]?) : Roas w' g n k file z := by
  obtain ⟨cur, hh, r⟩ := h
  exact ⟨cur, hb.trans hh, r⟩

theorem Roas.cells {w : World} {g n k : Nat} {file : ByteArray} {z : Nat → Int} (h : Roas w g n k file z) (j : Nat) (hj : j < k) :
    w.cell? ⟨g, j * 3, none⟩ = some (.string file) ∧ w.cell? ⟨g, j * 3 + 1, none⟩ = some (.int .u32 (z j)) ∧ w.cell? ⟨g, j * 3 + 2, none⟩ = some (.slice none 0 0) := by
  obtain ⟨cur, hh, _, hc⟩ := h
  obtain ⟨a, b, c⟩ := hc j hj
  refine ⟨?_, ?_, ?_⟩ <;> simp [World.cell?, hh, a, b, c]

theorem pairs_length (z : Nat → Int) : ∀ k, (pairs z k).length = k * 2
  | 0 => rfl
  | k + 1 => by simp [pairs, pairs_length z k]; omega

theorem pairs_get (z : Nat → Int) : ∀ k j, j < k → (pairs z k)[j * 2]? = some (.int .u32 (z j)) ∧ (pairs z k)[j * 2 + 1]? = some (.int .u32 (z j))
  | 0, j, h => by omega
  | k + 1, j, h => by
    have hl := pairs_length z k
    simp only [pairs]
    by_cases e : j = k
    · subst e
      refine ⟨?_, ?_⟩
      · rw [List.getElem?_append_right (by omega)]; simp [hl]
      · rw [List.getElem?_append_right (by omega)]; simp [hl]
    · obtain ⟨a, b⟩ := pairs_get z k j (by omega)
      exact ⟨by rw [List.getElem?_append_left (by omega)]; exact a, by rw [List.getElem?_append_left (by omega)]; exact b⟩

theorem owned_pairs {w : World} {base n : Nat} {v : Value} {z : Nat → Int} (h : w.ownsRow base 60 2 v n (pairs z n)) (hn : 0 < n) :
    ∃ g cap, v = .slice (some ⟨g, 0, none⟩) n cap ∧ (∀ j, j < n → w.cell? ⟨g, j * 2, none⟩ = some (.int .u32 (z j))) ∧ (∀ j, j < n → w.cell? ⟨g, j * 2 + 1, none⟩ = some (.int .u32 (z j))) := by
  have hc := fun g (hg : v.ownBlock = some g) => h.cells hg
  rcases h.2 with ⟨_, h0⟩ | ⟨g, cap, cur, rfl, _⟩
  · omega
  · have hx := hc g rfl
    refine ⟨g, cap, rfl, fun j hj => ?_, fun j hj => ?_⟩
    · have := hx _ _ (pairs_get z n j hj).1
      rwa [Addr.add_lit, Nat.zero_add] at this
    · have := hx _ _ (pairs_get z n j hj).2
      rwa [Addr.add_lit, Nat.zero_add] at this

set_option maxHeartbeats 400000 in
theorem walk_some (b off n c : Nat) (file : ByteArray) (z : Nat → Int) (w : World) (hn : n ≤ 1024) (hn0 : 0 < n) (hnc : n ≤ c) (hb : b < w.heap.size)
    (hz : ∀ j, j < n → w.cell? ⟨b, off + j, none⟩ = some (.int .u32 (z j))) :
    Calls Yba.prog 5 #[.slice (some ⟨b, off, none⟩) n c, .string file] w fun e w' => e = .returned (.bool true) ∧ Below w.heap.size w w' := by
  obtain ⟨i0, hi, hz0, hz1, hz2⟩ := info_parts info53
  have hne := fun (w : World) (a : Option Addr) (n c n1 c1 : Nat) => run_neq_slice_nil_any (P := Yba.prog) w 46 48 a n c n1 c1 Yba.underlying46
  go_enter Yba.func5, Yba.ntmps5
  go_wp2_with (at_make; refine wpList_make_full _ rfl _ _ 47 rfl w.heap.size 53 i0 _ 3 Yba.underlying47 hi hz0 hz1 _ _ _ _ n rfl rfl rfl rfl (by rw [hz2]; omega) (by unfold maxLen; omega) (Nat.le_refl _) ?_)
  intro w1 hown hgrow
  have hR := Roas.start file z hown
  have hB : Below w.heap.size w w1 := (Below.refl _ _).grown hgrow (Nat.le_refl _) (fun k hk => by cases hk)
  have hS : w.heap.size < w1.heap.size := by obtain ⟨cur, hh, _⟩ := hR; exact (Array.getElem?_eq_some_iff.1 hh).1
  clear hown hgrow hz0 hz1 hz2 hi
  go_wp2
  go_loopw [6] (fun i wr => ∃ k : Nat, k ≤ n ∧ i = .int .i64 k ∧ Roas wr w.heap.size n k file z ∧ Below w.heap.size w wr ∧ w.heap.size < wr.heap.size) (fun i _ => n - (intOf i).toNat)
  case atStart => exact ⟨0, Nat.zero_le _, rfl, hR, hB, hS⟩
  case round =>
    clear hR hB hS
    obtain ⟨k, hk, rfl, hR, hB, hS⟩ := hrel
    by_cases hlt : k < n
    · have cz : wr.cell? ⟨b, off + k, none⟩ = some (.int .u32 (z k)) := (hB.cell (by exact hb)).trans (hz k hlt)
      obtain ⟨⟨v0, c0⟩, f0⟩ := hR.old (k * 3) (by omega)
      obtain ⟨⟨v1, c1⟩, f1⟩ := hR.old (k * 3 + 1) (by omega)
      obtain ⟨⟨v2, c2⟩, f2⟩ := hR.old (k * 3 + 2) (by omega)
      have hR' := hR.step hlt
      have hB' : Below w.heap.size w (((wr.setCell ⟨w.heap.size, k * 3, none⟩ (.string file)).setCell ⟨w.heap.size, k * 3 + 1, none⟩ (.int .u32 (z k))).setCell ⟨w.heap.size, k * 3 + 2, none⟩ (.slice none 0 0)) :=
        ((hB.setCell (by exact Nat.le_refl _) _).setCell (by exact Nat.le_refl _) _).setCell (by exact Nat.le_refl _) _
      clear hR hB hz
      go_wp2
      go_roundw
      case rel => exact ⟨k + 1, by omega, by go_num, hR', hB', by simpa using hS⟩
      case measure => simp [intOf]; omega
    · obtain rfl : k = n := by omega
      have HZ : Hid (∀ j, j < k → w.cell? ⟨b, off + j, none⟩ = some (.int .u32 (z j))) := hz
      clear hz
      go_wp2_with fail
      have hRA : ∀ o, Roas (wr.alloc o) w.heap.size k k file z := fun o => hR.kept (Below.heap_alloc _ _ _ hS)
      refine (asids wr.heap.size w.heap.size k (some ⟨w.heap.size, 0, none⟩) file z _ hn (by simp) (fun _ => rfl) (by simp; omega) (fun j hj => ((hRA _).cells j hj).1) (fun j hj => ((hRA _).cells j hj).2.1) (fun j hj => ((hRA _).cells j hj).2.2)).mono ?_
      rintro e w2 ⟨v, rfl, hv, hb2, -⟩
      obtain ⟨g2, cap2, hv2, hp0, hp1⟩ := owned_pairs hv hn0
      rw [hv2]
      have hBW : Below w.heap.size w w2 := (hB.alloc (Nat.le_of_lt hS) _).trans (hb2.mono (by simp; omega))
      have hR2 : Roas w2 w.heap.size k k file z := (hRA _).kept (hb2.block _ (by simp; omega))
      have hm2 : w2.cell? ⟨wr.heap.size, 4, none⟩ = some (.slice (some ⟨w.heap.size, 0, none⟩) k k) := by rw [hb2.cell (by simp)]; simp
      have hz2 : ∀ j, j < k → w2.cell? ⟨b, off + j, none⟩ = some (.int .u32 (z j)) := fun j hj => (hBW.cell (by exact hb)).trans (HZ.out j hj)
      have HP0 : Hid (∀ j, j < k → w2.cell? ⟨g2, j * 2, none⟩ = some (.int .u32 (z j))) := hp0
      have HP1 : Hid (∀ j, j < k → w2.cell? ⟨g2, j * 2 + 1, none⟩ = some (.int .u32 (z j))) := hp1
      have HZ2 : Hid (∀ j, j < k → w2.cell? ⟨b, off + j, none⟩ = some (.int .u32 (z j))) := hz2
      clear hv hv2 hb2 hB hR hRA hp0 hp1 hz2 HZ
      go_wp2_with fail
      go_loopw [9] (fun i wq => ∃ j : Nat, j ≤ k ∧ i = .int .i64 j ∧ ∃ q, wq = w2.drewN q) (fun i _ => k - (intOf i).toNat)
      case atStart => exact ⟨0, Nat.zero_le _, rfl, 0, rfl⟩
      case round =>
        obtain ⟨j, hj, rfl, q, rfl⟩ := hrel
        by_cases hjk : j < k
        · have a0 := HP0.out j hjk
          have a1 := HP1.out j hjk
          have a2 := HZ2.out j hjk
          go_wp2_with fail
          go_quiet (fail)
          go_wp2_with fail
          go_roundw
          case rel => exact ⟨j + 1, by omega, by go_num, _, rfl⟩
          case measure => simp [intOf]; omega
        · clear HP0 HP1
          have hne2 := fun (w : World) (a : Option Addr) (n c n1 c1 : Nat) => run_neq_slice_nil_any (P := Yba.prog) w 49 116 a n c n1 c1 Yba.underlying49
          go_wp2_with fail
          go_loopw [10] (fun i wq => ∃ j : Nat, j ≤ k ∧ i = .int .i64 j ∧ ∃ q, wq = w2.drewN q) (fun i _ => k - (intOf i).toNat)
          case atStart => exact ⟨0, Nat.zero_le _, rfl, q, rfl⟩
          case round =>
            obtain ⟨j, hj, rfl, q, rfl⟩ := hrel
            by_cases hjk : j < k
            · obtain ⟨a0, a1, a3⟩ := hR2.cells j hjk
              have a2 := HZ2.out j hjk
              go_wp2_with fail
              go_quiet (fail)
              go_wp2_with fail
              go_roundw
              case rel => exact ⟨j + 1, by omega, by go_num, _, rfl⟩
              case measure => simp [intOf]; omega
            · go_wp2_with fail
              go_ret
              exact ⟨rfl, hBW.trans ⟨rfl, rfl, rfl, Nat.le_refl _, fun _ _ => rfl⟩⟩

set_option maxHeartbeats 400000 in
theorem walk_long (a : Option Addr) (n c : Nat) (file : ByteArray) (w : World) (hn : 1024 < n) (hm : n ≤ maxLen) :
    Calls Yba.prog 5 #[.slice a n c, .string file] w fun e w' => e = .returned (.bool true) ∧ Below w.heap.size w w' := by
  unfold maxLen at hm
  have hd : (1024 : Int) < (n : Int) := by omega
  go_enter Yba.func5, Yba.ntmps5
  go_wp2
  go_ret
  exact ⟨rfl, Below.refl _ _⟩

set_option maxHeartbeats 400000 in
theorem walk_nil (file : ByteArray) (w : World) :
    Calls Yba.prog 5 #[.slice none 0 0, .string file] w fun e w' => e = .returned (.bool true) ∧ Below w.heap.size w w' := by
  have hne := fun (w : World) (a : Option Addr) (n c n1 c1 : Nat) => run_neq_slice_nil_any (P := Yba.prog) w 46 48 a n c n1 c1 Yba.underlying46
  have hne2 := fun (w : World) (a : Option Addr) (n c n1 c1 : Nat) => run_neq_slice_nil_any (P := Yba.prog) w 58 60 a n c n1 c1 Yba.underlying58
  go_enter Yba.func5, Yba.ntmps5
  go_wp2_with fail
  refine (asids w.heap.size 0 0 none file (fun _ => 0) _ (by omega) (by simp) (fun h => by omega) (by simp) (fun j hj => by omega) (fun j hj => by omega) (fun j hj => by omega)).mono ?_
  rintro e w2 ⟨v, rfl, -, hb2, hv⟩
  have hv2 := hv rfl
  rw [hv2]
  have hm2 : w2.cell? ⟨w.heap.size, 4, none⟩ = some (.slice none 0 0) := by rw [hb2.cell (by simp)]; simp
  have hBW : Below w.heap.size w w2 := ((Below.refl _ _).alloc (Nat.le_refl _) _).trans (hb2.mono (by simp))
  clear hv hv2 hb2
  go_wp2_with fail
  refine wp_loop_rounds 1 ?_
  rw [rounds_succ]
  go_wp2
  go_ret
  exact ⟨rfl, hBW⟩

set_option maxHeartbeats 400000 in
theorem walk_empty (x : Addr) (c : Nat) (file : ByteArray) (w : World) :
    Calls Yba.prog 5 #[.slice (some x) 0 c, .string file] w fun e w' => e = .returned (.bool true) ∧ Below w.heap.size w w' := by
  have hne := fun (w : World) (a : Option Addr) (n c n1 c1 : Nat) => run_neq_slice_nil_any (P := Yba.prog) w 46 48 a n c n1 c1 Yba.underlying46
  have hne2 := fun (w : World) (a : Option Addr) (n c n1 c1 : Nat) => run_neq_slice_nil_any (P := Yba.prog) w 58 60 a n c n1 c1 Yba.underlying58
  obtain ⟨i0, hi, hz0, hz1, hz2⟩ := info_parts info53
  go_enter Yba.func5, Yba.ntmps5
  go_wp2_with (at_make; refine wpList_make_full _ rfl _ _ 47 rfl w.heap.size 53 i0 _ 3 Yba.underlying47 hi hz0 hz1 _ _ _ _ 0 rfl rfl rfl rfl (by rw [hz2]; omega) (by unfold maxLen; omega) (Nat.le_refl _) ?_)
  intro w1 hown hgrow
  have hB : Below w.heap.size w w1 := (Below.refl _ _).grown hgrow (Nat.le_refl _) (fun k hk => by cases hk)
  clear hown hgrow hz0 hz1 hz2 hi
  go_wp2_with fail
  refine wp_loop_rounds 1 ?_
  rw [rounds_succ]
  go_wp2_with fail
  refine (asids w1.heap.size 0 0 (some ⟨w.heap.size, 0, none⟩) file (fun _ => 0) _ (by omega) (by simp) (fun h => by omega) (by simp) (fun j hj => by omega) (fun j hj => by omega) (fun j hj => by omega)).mono ?_
  rintro e w2 ⟨v, rfl, -, hb2, hv⟩
  have hv2 := hv rfl
  rw [hv2]
  have hm2 : w2.cell? ⟨w1.heap.size, 4, none⟩ = some (.slice (some ⟨w.heap.size, 0, none⟩) 0 0) := by rw [hb2.cell (by simp)]; simp
  have hBW : Below w.heap.size w w2 := (hB.alloc hB.size _).trans (hb2.mono (by have := hB.size; simp; omega))
  clear hv hv2 hb2
  go_wp2_with fail
  refine wp_loop_rounds 1 ?_
  rw [rounds_succ]
  go_wp2
  go_ret
  exact ⟨rfl, hBW⟩
end Go.Proofs.Ybulkcajm.CR
