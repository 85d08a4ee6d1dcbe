import Derived.Test.YbulkcamsDoorKPKeep
namespace Go.Proofs.YbulkcamsDoor.KP
open Go.RowKit Ext
open MapFn (MapIs upd upd_same upd_other)
set_option maxRecDepth 10000
set_option linter.unusedSimpArgs false
set_option linter.unusedVariables false

theorem info25 : (Ybad.prog.info? 25).map (fun i => (i.zero, i.size, i.bytes)) = some (some (.pointer none), 1, 8) := by kernel_rfl

def slen : Value → Nat
  | .slice _ n _ => n
  | _ => 0

def elAt (el : Nat → Nat) (i n : Nat) : Value := if i < n then ptrV (el i) 0 else .pointer none

section
variable {w : World} {C : Nat} {rep : Value} {el kr : Nat → Nat} {ka : Nat → Array Value} {lo hi : Nat} {size : Int}

theorem LS.front (h : LS w C rep el kr ka lo hi size) (hle : lo ≤ hi) (hN : hi ≤ 100000) : Calls Ybad.prog 16 #[ptrV C 1] w fun e w' => e = .returned (elAt el lo hi) ∧ w' = w := by
  obtain ⟨nx, pv, hc, hnp⟩ := h.c
  unfold elAt
  by_cases hlt : lo < hi
  · obtain ⟨rfl, rfl⟩ := hnp hlt
    rw [if_pos hlt]
    exact Front_more C (el lo) _ _ _ _ (by omega) (by omega) w hc
  · rw [if_neg hlt]
    rw [show (hi : Int) - lo = 0 by omega] at hc
    exact Front_zero C _ _ _ _ w hc

theorem LS.next (h : LS w C rep el kr ka lo hi size) {i : Nat} (h1 : lo ≤ i) (h2 : i < hi) : Calls Ybad.prog 17 #[ptrV (el i) 0] w fun e w' => e = .returned (elAt el (i + 1) hi) ∧ w' = w := by
  have he := h.e i h1 h2
  obtain ⟨nx, pv, hc, _⟩ := h.c
  unfold elAt
  by_cases hlt : i + 1 < hi
  · rw [if_pos hlt] at he ⊢
    exact Next_more C (el i) (el (i + 1)) _ _ _ _ _ _ w he (h.e (i + 1) (by omega) hlt) hc
  · rw [if_neg hlt] at he ⊢
    exact Next_end C (el i) _ _ w he

theorem LS.len (h : LS w C rep el kr ka lo hi size) : Calls Ybad.prog 8 #[ptrV C 1] w fun e w' => e = .returned (.int .i64 ((hi : Int) - lo)) ∧ w' = w := by
  obtain ⟨nx, pv, hc, _⟩ := h.c
  exact Len_is C _ _ _ _ _ w hc
end

theorem own_slice {w : World} {base t sz : Nat} {v : Value} {k : Nat} {xs : List Value} (h : w.ownsRow base t sz v k xs) : ∃ ao cap, v = .slice ao k cap := by
  rcases h.2 with ⟨rfl, rfl, _⟩ | ⟨g, cap, cur, rfl, _⟩
  · exact ⟨_, _, rfl⟩
  · exact ⟨_, _, rfl⟩

theorem neqAP (w : World) : (binOp .neq 43 zeroAP zeroAP).run Ybad.prog w = .ok (.bool false) w := by kernel_rfl

set_option maxHeartbeats 400000 in
theorem neqTime (a b : Int) (w : World) : (binOp .neq 46 (.agg #[.int .u64 a, .int .i64 b, .pointer none]) (.agg #[.int .u64 a, .int .i64 b, .pointer none])).run Ybad.prog w = .ok (.bool false) w := by
  have p0 : (part 33 #[.int .u64 a, .int .i64 b, .pointer none] 0).run Ybad.prog w = .ok (.int .u64 a) w := by kernel_rfl
  have p1 : (part 2 #[.int .u64 a, .int .i64 b, .pointer none] 1).run Ybad.prog w = .ok (.int .i64 b) w := by kernel_rfl
  have p2 : (part 44 #[.int .u64 a, .int .i64 b, .pointer none] 2).run Ybad.prog w = .ok (.pointer none) w := by kernel_rfl
  have e0 : ∀ d, (Op.equalIn (d + 1) 33 (.int .u64 a) (.int .u64 a)).run Ybad.prog w = .ok true w := fun d => by simp [Op.equalIn, run_underlying Ybad.underlying33]
  have e1 : ∀ d, (Op.equalIn (d + 1) 2 (.int .i64 b) (.int .i64 b)).run Ybad.prog w = .ok true w := fun d => by simp [Op.equalIn, run_underlying Ybad.underlying2]
  have e2 : ∀ d, (Op.equalIn (d + 1) 44 (.pointer none) (.pointer none)).run Ybad.prog w = .ok true w := fun d => by simp [Op.equalIn, run_underlying Ybad.underlying44]
  have h : ∀ d : Nat, (Op.equalIn (d + 1 + 1) 46 (.agg #[.int .u64 a, .int .i64 b, .pointer none]) (.agg #[.int .u64 a, .int .i64 b, .pointer none])).run Ybad.prog w = .ok true w := fun d => by
    rw [Op.equalIn]
    simp [run_underlying Ybad.underlying46, p0, p1, p2, e0, e1, e2, Result.andThen]
  simp only [binOp]
  simp [Op.equal, Op.maxDepth, h 9998]

theorem slice_get {w : World} {base : Nat} {ao : Option Addr} {k cap : Nat} {f : Nat → Value} (h : w.ownsRow base 25 1 (.slice ao k cap) k ((List.range k).map f)) (hk : 0 < k) :
    ∃ g, ao = some ⟨g, 0, none⟩ ∧ base ≤ g ∧ ∀ j, j < k → w.cell? ⟨g, j, none⟩ = some (f j) := by
  have hc := fun g (hg : (Value.slice ao k cap).ownBlock = some g) => h.cells hg
  rcases h.2 with ⟨e, _⟩ | ⟨g, cap', cur, e, hb, _⟩
  · cases e; omega
  · cases e
    refine ⟨g, rfl, hb, fun j hj => ?_⟩
    have := hc g rfl j (f j) (by simp [hj])
    rwa [Addr.add_lit, Nat.zero_add] at this

set_option maxHeartbeats 2000000 in
theorem check_any (C O I b off n c s ev : Nat) (el kr : Nat → Nat) (ids sz : Nat → Int) (d : Int) (mid : ByteArray) (w : World) (h0 : 0 < n) (hn : n ≤ 2048) (hev : ev ≤ n)
    (hL : LS w C (.map (some O)) el kr (fun i => krArr mid (ids i) d (sz i)) ev n (tot sz n - tot sz ev)) (hM : MapSt w O I mid (idx ids el ev n) (cntTo ids n - cntTo ids ev))
    (hI : Ids w b off n ids) (hZ : ∀ j, j < n → w.cell? ⟨s, j, none⟩ = some (.int .i64 (sz j))) (hbd : ∀ i j, i ≤ j → j ≤ n → -4611686018427387904 ≤ tot sz j - tot sz i ∧ tot sz j - tot sz i ≤ 4611686018427387904) (hS : okS mid) (hU : ∀ i, okU (ids i)) :
    Calls Ybad.prog 9 #[ptrV C 0, .string mid, zeroAP, .slice (some ⟨b, off, none⟩) n c, .slice (some ⟨s, 0, none⟩) n n, .int .i64 ev] w fun e w' => e = .returned (.bool true) ∧ Below w.heap.size w w' := by
  obtain ⟨i0, hi, hz0, hz1, hz2⟩ := info_parts info25
  have HL := hid hL
  have HM := hid hM
  have HI := hid hI
  have HZ := hid hZ
  have HB := hid hbd
  have HU := hid hU
  obtain ⟨m, hm⟩ : ∃ m, n = ev + m := ⟨n - ev, by omega⟩
  have Hm := hid hm
  clear hL hM hI hZ hbd hU hm
  go_enter Ybad.func9, Ybad.ntmps9
  go_wp2_with fail
  obtain ⟨w1, hw1⟩ : ∃ w1, w1 = w.alloc (.cells apArr 43) := ⟨_, rfl⟩
  have b1 : Below w.heap.size w w1 := by rw [hw1]; exact (Below.refl _ _).alloc (Nat.le_refl _) _
  have hap : w1.heap[w.heap.size]? = some (.cells apArr 43 (0, 0)) := by rw [hw1]; exact heap_alloc_new _ _
  have HS1 := hid (show w1.heap.size = w.heap.size + 1 by rw [hw1]; simp)
  rw [← hw1]
  clear hw1
  have HL1 := hid (HL.out.below b1)
  refine (HL1.out.front hev (by omega)).mono ?_
  rintro e w1 ⟨rfl, rfl⟩
  go_wp2_with fail
  go_loopw [14, 15] (fun v e wr => ∃ k : Nat, k ≤ m ∧ wr.ownsRow (w.heap.size + 1) 25 1 v k ((List.range k).map (fun j => ptrV (el (ev + j)) 0)) ∧ e = elAt el (ev + k) n ∧ Below (w.heap.size + 1) w1 wr) (fun v _ _ => m - slen v)
  case atStart => exact ⟨0, Nat.zero_le _, World.ownsRow_nil _ _ _ _, rfl, Below.refl _ _⟩
  case round =>
    obtain ⟨k, hk, hown, rfl, hB⟩ := hrel
    obtain ⟨ao, cap, rfl⟩ := own_slice hown
    have hBw : Below w.heap.size w wr := b1.trans (hB.mono (by omega))
    by_cases hlt : k < m
    · have hi1 : ev + k < n := by have := Hm.out; omega
      rw [show elAt el (ev + k) n = ptrV (el (ev + k)) 0 from if_pos hi1]
      have hkn : ¬ (n : Int) ≤ k := by have := Hm.out; omega
      have HLr := hid (HL.out.below hBw)
      have HB1 := hid hB
      have HBw := hid hBw
      have hsz := hB.size
      have hs1 := HS1.out
      clear hB hBw
      go_wp2_with (at_builtin; refine wpList_append_own _ rfl _ _ 76 rfl (w.heap.size + 1) 25 i0 (.pointer none) 1 8 Ybad.underlying76 hi hz0 hz1 hz2 rfl (by decide) _ _ _ rfl (hown.alloc _) ⟨wr.heap.size, 0, none⟩ 1 1 [ptrV (el (ev + k)) 0] rfl rfl ?c1 ?c2 ?c3 ?c4 ?c5 ?_)
      case c2 => rfl
      case c3 => unfold maxLen; have := Hm.out; omega
      case c4 => have := Hm.out; omega
      case c5 => omega
      intro v' w3 hown' hgrow hnn
      have hB3 : Below (w.heap.size + 1) w1 w3 := (HB1.out.alloc (by omega) _).grown hgrow (by simp; omega) (fun k hk => (hown.lt k hk).1)
      have HBn := hid hB3
      have HLn := hid (HL.out.below (b1.trans (hB3.mono (by omega))))
      obtain ⟨ao', cap', rfl⟩ := own_slice hown'
      have HOn := hid hown'
      clear hown hown' hgrow hnn hB3 HLr
      go_wp2_with fail
      refine (HLn.out.next (by omega) hi1).mono ?_
      rintro e w4 ⟨rfl, rfl⟩
      go_wp2_with fail
      go_roundw
      case rel => exact ⟨k + 1, by omega, by rw [List.range_succ, List.map_append]; exact HOn.out, rfl, HBn.out⟩
      case measure => simp [slen]; omega
    · obtain rfl : k = m := by omega
      have hnn : ¬ ev + k < n := by have := Hm.out; omega
      rw [show elAt el (ev + k) n = .pointer none from if_neg hnn]
      have hsub : (n : Int) - ev = k := by have := Hm.out; omega
      have HLr := hid (HL.out.below hBw)
      have hlen := HLr.out.len
      rw [hsub] at hlen
      have HLen := hid hlen
      have HB1 := hid hB
      have HBw := hid hBw
      have hsz := hB.size
      have hs1 := HS1.out
      have HOn := hid hown
      clear hB hBw hlen hown hnn
      go_wp2_with fail
      refine HLen.out.mono ?_
      rintro e w4 ⟨rfl, rfl⟩
      go_wp2_with fail
      obtain ⟨V, hV⟩ : ∃ V, V = w4.alloc (.cells #[.int .u64 0, .int .i64 0, .pointer none] 46) := ⟨_, rfl⟩
      have vU : V.heap[w4.heap.size]? = some (.cells #[.int .u64 0, .int .i64 0, .pointer none] 46 (0, 0)) := by rw [hV]; exact heap_alloc_new _ _
      have vB : Below w4.heap.size w4 V := by rw [hV]; exact (Below.refl _ _).alloc (Nat.le_refl _) _
      rw [← hV]
      clear hV
      go_loopw [16, 64] (fun tt i wq => ∃ j : Nat, j ≤ k ∧ i = .int .i64 j ∧ tt = .int .i64 (tot sz (ev + j) - tot sz ev) ∧ Below w4.heap.size w4 wq ∧ wq.heap[w4.heap.size]? = some (.cells (if j = 0 then #[.int .u64 0, .int .i64 0, .pointer none] else #[.int .u64 (d % 1000000000), .int .i64 (d / 1000000000 + 90), .pointer none]) 46 (0, 0))) (fun _ i _ => k - (intOf i).toNat)
      case atStart => exact ⟨0, Nat.zero_le _, rfl, by rw [Nat.add_zero, Int.sub_self], vB, vU⟩
      case round =>
        clear vU vB
        obtain ⟨j, hj, rfl, rfl, vB, vU⟩ := hrel
        by_cases hjk : j < k
        · obtain ⟨g, rfl, hgb, hg⟩ := slice_get HOn.out (by omega)
          obtain ⟨ix, hix⟩ : ∃ ix, ix = ev + j := ⟨_, rfl⟩
          have hin : ix < n := by have := Hm.out; omega
          have hge : ev ≤ ix := by omega
          have hLq : LS wr C (.map (some O)) el kr (fun i => krArr mid (ids i) d (sz i)) ev n (tot sz n - tot sz ev) := HLr.out.below vB
          have cg : wr.cell? ⟨g, j, none⟩ = some (ptrV (el ix) 0) := by rw [hix]; exact (vB.cell (World.block_lt_of_cell? _ _ (hg j hjk))).trans (hg j hjk)
          have ce : wr.cell? ⟨el ix, 3, none⟩ = some (.iface 70 (ptrV (kr ix) 0)) := block_cell (hLq.e ix hge hin) 3
          have hk72 := hLq.k ix hge hin
          have k0 : wr.cell? ⟨kr ix, 0, none⟩ = some (.string mid) := block_cell hk72 0
          have k1 : wr.cell? ⟨kr ix, 1, none⟩ = some (.int .u32 (ids ix)) := block_cell hk72 1
          have k3 : wr.cell? ⟨kr ix, 3, none⟩ = some (.int .u32 (ids ix)) := block_cell hk72 3
          have k8 : wr.cell? ⟨kr ix, 8, none⟩ = some (.int .u64 0) := block_cell hk72 8
          have k9 : wr.cell? ⟨kr ix, 9, none⟩ = some (.int .u64 0) := block_cell hk72 9
          have k10 : wr.cell? ⟨kr ix, 10, none⟩ = some (.pointer none) := block_cell hk72 10
          have k11 : wr.cell? ⟨kr ix, 11, none⟩ = some (.int .u16 0) := block_cell hk72 11
          have k12 : wr.cell? ⟨kr ix, 12, none⟩ = some (.int .u64 (d % 1000000000)) := block_cell hk72 12
          have k13 : wr.cell? ⟨kr ix, 13, none⟩ = some (.int .i64 (d / 1000000000 + 90)) := block_cell hk72 13
          have k14 : wr.cell? ⟨kr ix, 14, none⟩ = some (.pointer none) := block_cell hk72 14
          have k15 : wr.cell? ⟨kr ix, 15, none⟩ = some (.int .i64 (sz ix)) := block_cell hk72 15
          have hBr : Below w.heap.size w wr := HBw.out.trans (vB.mono (by have := HBw.out.size; omega))
          have ci : wr.cell? ⟨b, off + ix, none⟩ = some (.int .u32 (ids ix)) := (hBr.cell (World.block_lt_of_cell? _ _ (HI.out ix hin).1)).trans (HI.out ix hin).1
          have cz : wr.cell? ⟨s, ix, none⟩ = some (.int .i64 (sz ix)) := (hBr.cell (World.block_lt_of_cell? _ _ (HZ.out ix hin))).trans (HZ.out ix hin)
          have hapr : wr.heap[w.heap.size]? = some (.cells apArr 43 (0, 0)) := (vB.block _ (by omega)).trans ((HB1.out.block _ (by omega)).trans hap)
          have p0 : wr.cell? ⟨w.heap.size, 0, none⟩ = some (.int .u64 0) := block_cell hapr 0
          have p1 : wr.cell? ⟨w.heap.size, 1, none⟩ = some (.int .u64 0) := block_cell hapr 1
          have p2 : wr.cell? ⟨w.heap.size, 2, none⟩ = some (.pointer none) := block_cell hapr 2
          have p3 : wr.cell? ⟨w.heap.size, 3, none⟩ = some (.int .u16 0) := block_cell hapr 3
          have ta := assert70 (ptrV (kr ix) 0) true wr
          simp only [if_true] at ta
          obtain ⟨bd0, bd1⟩ := HB.out ev (ix + 1) (by omega) (by omega)
          rw [tot] at bd0 bd1
          have hxi : (ev : Int) + j = ix := by omega
          rw [← hix]
          have hsl : s < w4.heap.size := Nat.lt_of_lt_of_le (World.block_lt_of_cell? _ _ (HZ.out ix hin)) HBw.out.size
          have ns1 : ¬ s = w4.heap.size := by omega
          have ns2 : ¬ w4.heap.size = s := by omega
          have q1 := neqAP
          have q2 := neqTime (d % 1000000000) (d / 1000000000 + 90)
          have HIX := hid hix
          have VB := hid vB
          have VU := hid vU
          have HLQ := hid hLq
          clear vB vU hLq hk72 hix hBr hapr
          by_cases hj0 : j = 0
          · have hjb : ((j : Int) == 0) = true := by simp; omega
            have vU := VU.out
            rw [if_pos hj0] at vU
            have HJ0 := hid hj0
            clear hj0
            have u0 : wr.cell? ⟨w4.heap.size, 0, none⟩ = some (.int .u64 0) := block_cell vU 0
            have u1 : wr.cell? ⟨w4.heap.size, 1, none⟩ = some (.int .i64 0) := block_cell vU 1
            have u2 : wr.cell? ⟨w4.heap.size, 2, none⟩ = some (.pointer none) := block_cell vU 2
            have uf : ∀ i, wr.frozen? ⟨w4.heap.size, i, none⟩ = false := block_frozen vU
            have HVU := hid vU
            clear VU vU
            go_wp2_with fail
            go_quiet (fail)
            go_wp2_with fail
            go_roundw
            case rel => exact ⟨j + 1, by omega, by go_num, by rw [show ev + (j + 1) = ix + 1 by have := HIX.out; omega, tot]; congr 1; omega,
              (((VB.out.trans (⟨rfl, rfl, rfl, Nat.le_refl _, fun _ _ => rfl⟩ : Below _ wr (wr.drewN nq))).setCell (p := ⟨w4.heap.size, 0, none⟩) (Nat.le_refl _) _).setCell (p := ⟨w4.heap.size, 1, none⟩) (Nat.le_refl _) _).setCell (p := ⟨w4.heap.size, 2, none⟩) (Nat.le_refl _) _,
              by rw [if_neg (Nat.succ_ne_zero j)]; exact block_set (block_set (block_set (HVU.out : (wr.drewN nq).heap[w4.heap.size]? = _) _ _) _ _) _ _⟩
            case measure => simp [intOf]; omega
          · have hjb : ((j : Int) == 0) = false := by simp; omega
            have vU := VU.out
            rw [if_neg hj0] at vU
            have HJ0 := hid hj0
            clear hj0
            have u0 : wr.cell? ⟨w4.heap.size, 0, none⟩ = some (.int .u64 (d % 1000000000)) := block_cell vU 0
            have u1 : wr.cell? ⟨w4.heap.size, 1, none⟩ = some (.int .i64 (d / 1000000000 + 90)) := block_cell vU 1
            have u2 : wr.cell? ⟨w4.heap.size, 2, none⟩ = some (.pointer none) := block_cell vU 2
            have HVU := hid vU
            clear VU vU
            go_wp2_with fail
            go_quiet (fail)
            go_wp2_with fail
            go_quiet (fail)
            go_wp2_with fail
            go_roundw
            case rel => exact ⟨j + 1, by omega, by go_num, by rw [show ev + (j + 1) = ix + 1 by have := HIX.out; omega, tot]; congr 1; omega, VB.out.trans ⟨rfl, rfl, rfl, Nat.le_refl _, fun _ _ => rfl⟩, by rw [if_neg (Nat.succ_ne_zero j)]; exact HVU.out⟩
            case measure => simp [intOf]; omega
        · obtain rfl : j = k := by omega
          have hnk : ev + j = n := by have := Hm.out; omega
          rw [hnk]
          have hLq : LS wr C (.map (some O)) el kr (fun i => krArr mid (ids i) d (sz i)) ev n (tot sz n - tot sz ev) := HLr.out.below vB
          obtain ⟨_, _, hcq, _⟩ := hLq.c
          have c6 : wr.cell? ⟨C, 6, none⟩ = some (.int .i64 (tot sz n - tot sz ev)) := block_cell hcq 6
          have c0 : wr.cell? ⟨C, 0, none⟩ = some (.map (some O)) := block_cell hcq 0
          have hBr : Below w.heap.size w wr := HBw.out.trans (vB.mono (by have := HBw.out.size; omega))
          have HIr := hid (show Ids wr b off n ids from fun i hi => ⟨(hBr.cell (World.block_lt_of_cell? _ _ (HI.out i hi).1)).trans (HI.out i hi).1, (HI.out i hi).2⟩)
          clear hLq hcq vU hnk hsub
          by_cases hcnt : 0 < cntTo ids n - cntTo ids ev
          · -- alive
            have hmo := (HM.out.1 hcnt).1
            have hOl : O < w.heap.size := by obtain ⟨_, _, e⟩ := isMap hmo; exact block_lt e
            have hmoq : ∀ q, MapS (wr.drewN q) O (one mid I) 1 := fun q => map_drew (hmo.kept (hBr.block _ hOl)) q
            have l1 : (Instr.lookup 24 (.map (some O)) (.string mid) false).run Ybad.prog wr = .ok (.map (some I)) wr := by simpa [one] using lookS (hmo.kept (hBr.block _ hOl)) hS
            have lo24 : ∀ q ty, (Builtin.len_ #[24] ty #[.map (some O)]).run Ybad.prog (wr.drewN q) = .ok (.int .i64 1) (wr.drewN q) := fun q ty => MapFn.run_len (hmoq q) und24
            have hmu := (HM.out.1 hcnt).2
            have HMU := hid (show ∀ q, MapU (wr.drewN q) I (idx ids el ev n) (cntTo ids n - cntTo ids ev) from fun q => map_drew (hmu.kept (hBr.block _ (by obtain ⟨_, _, e⟩ := isMap hmu; exact block_lt e))) q)
            clear hmu
            have HLO := hid lo24
            have HBR := hid hBr
            have HN3 := Hm
            clear hmo hmoq lo24 hBr
            go_wp2_with fail
            clear l1
            go_loopw [24, 25] (fun cc i wq => ∃ i' : Nat, ev ≤ i' ∧ i' ≤ n ∧ i = .int .i64 i' ∧ cc = .int .i64 ((cntTo ids i' - cntTo ids ev : Nat) : Int) ∧ ∃ q, wq = wr.drewN q) (fun _ i _ => n - (intOf i).toNat)
            case atStart => exact ⟨ev, Nat.le_refl _, hev, rfl, by rw [Nat.sub_self]; rfl, 0, rfl⟩
            case round =>
              obtain ⟨i', hi0, hi1, rfl, rfl, q, rfl⟩ := hrel
              by_cases hin : i' < n
              · have hIdq : Ids (wr.drewN q) b off n ids := HIr.out
                have HIQ := hid hIdq
                have hcl := cnt_le ids i'
                have hcs : cntTo ids (i' + 1) = cntTo ids i' + (if firstB ids i' = true then 1 else 0) := rfl
                have hce := cnt_mono ids hi0
                have hcn := cnt_mono ids (show i' + 1 ≤ n from hin)
                clear hIdq
                by_cases hf : firstB ids i' = true
                · have HF := hid hf
                  rw [if_pos hf] at hcs
                  have hcadd : ((cntTo ids i' - cntTo ids ev : Nat) : Int) + 1 = ((cntTo ids (i' + 1) - cntTo ids ev : Nat) : Int) := by omega
                  have hcbd : ((cntTo ids i' - cntTo ids ev : Nat) : Int) ≤ 100000 := by omega
                  obtain ⟨g, rfl, hgb, hg⟩ := slice_get HOn.out (by have := HN3.out; omega)
                  obtain ⟨l, hl, hil⟩ := lastOcc_some (ids := ids) (x := ids i') rfl hin
                  have hll := lastOcc_lt hl
                  have hix : idx ids el ev n (ids i') = some (ptrV (el l) 0) := by
                    unfold idx
                    rw [hl]
                    have : (lastOcc ids ev (ids i')).isSome = false := by
                      cases hh : (lastOcc ids ev (ids i')).isSome with
                      | false => rfl
                      | true =>
                        have := lastOcc_mono hi0 hh
                        unfold firstB at hf
                        cases hk2 : lastOcc ids i' (ids i') with
                        | none => rw [hk2] at this; cases this
                        | some v => rw [hk2] at hf; cases hf
                    rw [this]; rfl
                  obtain ⟨lx, hlx⟩ : ∃ lx : Nat, lx = l - ev := ⟨_, rfl⟩
                  have hlx2 : (l : Int) - ev = lx := by omega
                  have hlxk : lx < j := by have := HN3.out; omega
                  have cg0 : wr.cell? ⟨g, lx, none⟩ = some (ptrV (el l) 0) := by
                    have e := hg lx hlxk
                    rw [show ev + lx = l by omega] at e
                    exact (vB.cell (World.block_lt_of_cell? _ _ e)).trans e
                  have ci : wr.cell? ⟨b, off + i', none⟩ = some (.int .u32 (ids i')) := (HIr.out i' hin).1
                  have lk : ∀ q, (Instr.lookup 60 (.map (some I)) (.int .u32 (ids i')) true).run Ybad.prog (wr.drewN q) = .ok (.tuple #[ptrV (el l) 0, .bool true]) (wr.drewN q) := fun q => by
                    have := lookU (HMU.out q) (HU.out i')
                    rw [hix] at this
                    simpa using this
                  have n25 := neq25_same
                  have HHL := hid hl
                  have HCA := hid hcadd
                  clear hf hcs hce hcn hcl hl hix hcadd hlx
                  go_wp2_with fail
                  refine (first_any b off n c i' ids (wr.drewN q) (by omega) hin HIQ.out).mono ?_
                  rintro e w7 ⟨j, rfl, hji, hjf, q7, rfl⟩
                  obtain rfl : j = i' := hjf.2 HF.out
                  rw [World.drewN_drewN]
                  clear hjf
                  go_wp2_with fail
                  refine (last_any b off n c j ids (wr.drewN (q + q7)) (by omega) hin HIQ.out).mono ?_
                  rintro e w8 ⟨l', rfl, hl', q8, rfl⟩
                  obtain rfl : l' = l := by have := HHL.out; rw [hl'] at this; exact Option.some.inj this
                  rw [World.drewN_drewN]
                  clear hl'
                  go_wp2_with fail
                  go_roundw
                  case rel => exact ⟨j + 1, by omega, by omega, by go_num, by rw [← HCA.out], _, rfl⟩
                  case measure => simp [intOf]; omega
                · have HF := hid hf
                  rw [if_neg hf] at hcs
                  have hcs' : cntTo ids (i' + 1) = cntTo ids i' := by omega
                  have HCS := hid hcs'
                  clear hcs'
                  clear hf hcs hce hcn hcl
                  go_wp2_with fail
                  refine (first_any b off n c i' ids (wr.drewN q) (by omega) hin HIQ.out).mono ?_
                  rintro e w7 ⟨j, rfl, hji, hjf, q7, rfl⟩
                  have hne : ((j : Int) == i') = false := by
                    have : j ≠ i' := fun e => HF.out (hjf.1 e)
                    simp; omega
                  clear hjf
                  go_wp2_with fail
                  go_roundw
                  case rel => exact ⟨i' + 1, by omega, by omega, by go_num, by rw [HCS.out], _, rfl⟩
                  case measure => simp [intOf]; omega
              · obtain rfl : i' = n := by omega
                have lu : ∀ ty, (Builtin.len_ #[60] ty #[.map (some I)]).run Ybad.prog (wr.drewN q) = .ok (.int .i64 ((cntTo ids i' - cntTo ids ev : Nat) : Int)) (wr.drewN q) := fun ty => MapFn.run_len (HMU.out q) und60
                have lo := HLO.out q
                have hcz : (((cntTo ids i' - cntTo ids ev : Nat) : Int) == 0) = false := by simp; omega
                clear HN3
                go_wp2_with fail
                go_ret
                exact ⟨rfl, HBR.out.trans ⟨rfl, rfl, rfl, Nat.le_refl _, fun _ _ => rfl⟩⟩
          · -- dead
            have hmo := HM.out.2 (by omega)
            have hOl : O < w.heap.size := by obtain ⟨_, _, e⟩ := isMap hmo; exact block_lt e
            have hmoq : ∀ q, MapS (wr.drewN q) O (fun _ => none) 0 := fun q => map_drew (hmo.kept (hBr.block _ hOl)) q
            have l1 : (Instr.lookup 24 (.map (some O)) (.string mid) false).run Ybad.prog wr = .ok (.map none) wr := by simpa [one] using lookS (hmo.kept (hBr.block _ hOl)) hS
            have lo24 : ∀ q ty, (Builtin.len_ #[24] ty #[.map (some O)]).run Ybad.prog (wr.drewN q) = .ok (.int .i64 0) (wr.drewN q) := fun q ty => MapFn.run_len (hmoq q) und24
            have HLO := hid lo24
            have HBR := hid hBr
            have HN3 := Hm
            clear hmo hmoq lo24 hBr
            go_wp2_with fail
            clear l1
            go_loopw [24, 25] (fun cc i wq => ∃ i' : Nat, ev ≤ i' ∧ i' ≤ n ∧ i = .int .i64 i' ∧ cc = .int .i64 ((cntTo ids i' - cntTo ids ev : Nat) : Int) ∧ ∃ q, wq = wr.drewN q) (fun _ i _ => n - (intOf i).toNat)
            case atStart => exact ⟨ev, Nat.le_refl _, hev, rfl, by rw [Nat.sub_self]; rfl, 0, rfl⟩
            case round =>
              obtain ⟨i', hi0, hi1, rfl, rfl, q, rfl⟩ := hrel
              by_cases hin : i' < n
              · have hIdq : Ids (wr.drewN q) b off n ids := HIr.out
                have HIQ := hid hIdq
                have hcl := cnt_le ids i'
                have hcs : cntTo ids (i' + 1) = cntTo ids i' + (if firstB ids i' = true then 1 else 0) := rfl
                have hce := cnt_mono ids hi0
                have hcn := cnt_mono ids (show i' + 1 ≤ n from hin)
                clear hIdq
                by_cases hf : firstB ids i' = true
                · rw [if_pos hf] at hcs; exact absurd hcnt (by omega)
                · have HF := hid hf
                  rw [if_neg hf] at hcs
                  have hcs' : cntTo ids (i' + 1) = cntTo ids i' := by omega
                  have HCS := hid hcs'
                  clear hcs'
                  clear hf hcs hce hcn hcl
                  go_wp2_with fail
                  refine (first_any b off n c i' ids (wr.drewN q) (by omega) hin HIQ.out).mono ?_
                  rintro e w7 ⟨j, rfl, hji, hjf, q7, rfl⟩
                  have hne : ((j : Int) == i') = false := by
                    have : j ≠ i' := fun e => HF.out (hjf.1 e)
                    simp; omega
                  clear hjf
                  go_wp2_with fail
                  go_roundw
                  case rel => exact ⟨i' + 1, by omega, by omega, by go_num, by rw [HCS.out], _, rfl⟩
                  case measure => simp [intOf]; omega
              · obtain rfl : i' = n := by omega
                have lu : ∀ ty, (Builtin.len_ #[60] ty #[.map none]).run Ybad.prog (wr.drewN q) = .ok (.int .i64 0) (wr.drewN q) := fun ty => by simp [Builtin.len_, run_underlying und60, Result.andThen, goInt]
                have lo := HLO.out q
                have hcz : ((cntTo ids i' - cntTo ids ev : Nat) : Int) = 0 := by omega
                rw [hcz]
                clear hcz hcnt HN3
                go_wp2_with fail
                go_ret
                exact ⟨rfl, HBR.out.trans ⟨rfl, rfl, rfl, Nat.le_refl _, fun _ _ => rfl⟩⟩
end Go.Proofs.YbulkcamsDoor.KP
