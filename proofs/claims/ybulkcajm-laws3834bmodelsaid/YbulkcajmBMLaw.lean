import Derived.Test.YbulkcajmBMCurrent
namespace Go.Proofs.Ybulkcajm.BM
open Go.RowKit Ext
set_option maxRecDepth 10000
set_option linter.unusedSimpArgs false
set_option linter.unusedVariables false

theorem info4 : (Yba.prog.info? 4).map (fun i => (i.zero, i.size, i.bytes)) = some (some (.bool false), 1, 1) := by kernel_rfl

/-- Block b is a row of n one-cell elements of type t, none frozen, the first k of which are laid by f. -/
def Row (w : World) (b : Nat) (t : TypeId) (n k : Nat) (f : Nat → Value) : Prop :=
  ∃ cur : Array Value, w.heap[b]? = some (.cells cur t (0, 0)) ∧ cur.size = n ∧ ∀ j, j < k → cur[j]? = some (f j)

section
variable {w w' : World} {b : Nat} {t : TypeId} {n k : Nat} {f : Nat → Value}
theorem Row.start {base : Nat} {xs : List Value} (f : Nat → Value) (h : w.ownsRow base t 1 (.slice (some ⟨b, 0, none⟩) n n) n xs) : Row w b t n 0 f := by
  rcases h.2 with ⟨h, _⟩ | ⟨g', cap, cur, hv, _, hh, _, _, hs, _⟩
  · cases h
  · cases hv
    exact ⟨cur, hh, by omega, fun j hj => by omega⟩
theorem Row.lt (h : Row w b t n k f) : b < w.heap.size := by obtain ⟨_, h, _⟩ := h; exact block_lt h
theorem Row.old (h : Row w b t n k f) (i : Nat) (hi : i < n) : (∃ v, w.cell? ⟨b, i, none⟩ = some v) ∧ w.frozen? ⟨b, i, none⟩ = false := by
  obtain ⟨cur, hh, hs, _⟩ := h
  exact ⟨⟨cur[i], by simp [World.cell?, hh, hs, hi]⟩, by simp [World.frozen?, hh]⟩
theorem Row.step (h : Row w b t n k f) (hk : k < n) : Row (w.setCell ⟨b, k, none⟩ (f k)) b t n (k + 1) f := by
  obtain ⟨cur, hh, hs, hc⟩ := h
  refine ⟨cur.setIfInBounds k (f k), block_set hh k _, by simp [hs], fun j hj => ?_⟩
  by_cases e : j = k
  · subst e; simp [hs, hk]
  · rw [Array.getElem?_setIfInBounds, if_neg (fun h => e h.symm)]; exact hc j (by omega)
theorem Row.kept (h : Row w b t n k f) (hb : w'.heap[b]? = w.heap[b]?) : Row w' b t n k f := by
  obtain ⟨cur, hh, r⟩ := h
  exact ⟨cur, hb.trans hh, r⟩
theorem Row.cell (h : Row w b t n k f) (j : Nat) (hj : j < k) : w.cell? ⟨b, j, none⟩ = some (f j) := by
  obtain ⟨cur, hh, _, hc⟩ := h
  rw [block_cell hh]; exact hc j hj
end

theorem Mans.cell {w : World} {L n k : Nat} {mp : Nat → Nat} {th nx ak nm : Nat → Int} (h : Mans w L n k mp th nx ak nm) (j : Nat) (hj : j < k) : w.cell? ⟨L, j, none⟩ = some (.pointer (some ⟨mp j, 0, none⟩)) := by
  obtain ⟨⟨cur, hh, _, hc⟩, _⟩ := h
  rw [block_cell hh]; exact hc j hj
theorem Mans.kept {w w' : World} {L n k : Nat} {mp : Nat → Nat} {th nx ak nm : Nat → Int} (h : Mans w L n k mp th nx ak nm) (hb : Below w.heap.size w w') : Mans w' L n k mp th nx ak nm := by
  obtain ⟨⟨cur, hh, r⟩, hm⟩ := h
  exact ⟨⟨cur, (hb.block _ (block_lt hh)).trans hh, r⟩, fun j hj => (hm j hj).kept (Keeps.of_below hb)⟩

theorem ints_kept {w w' : World} {b off n : Nat} {th nx ak nm : Nat → Int} (h : Ents w b off n th nx ak nm) {B : Nat} (hb : Below B w w') (hB : b < B) : Ents w' b off n th nx ak nm := fun j hj => by
  obtain ⟨a0, a1, a2, a3⟩ := h j hj
  exact ⟨keepCell hb a0 hB, keepCell hb a1 hB, keepCell hb a2 hB, keepCell hb a3 hB⟩

theorem got_kept {wd wx : World} {ao : Option Addr} {xs : List Value} (h : ∃ g, ao = some ⟨g, 0, none⟩ ∧ ∀ i u, xs[i]? = some u → wd.cell? ⟨g, i, none⟩ = some u) (hb : Below wd.heap.size wd wx) :
    ∃ g, ao = some ⟨g, 0, none⟩ ∧ ∀ i u, xs[i]? = some u → wx.cell? ⟨g, i, none⟩ = some u := by
  obtain ⟨g, hg, hc⟩ := h
  exact ⟨g, hg, fun i u hu => keepCell hb (hc i u hu) (World.block_lt_of_cell? wd _ (hc i u hu))⟩

theorem info42 : (Yba.prog.info? 42).map (fun i => i.size) = some 10 := by kernel_rfl

theorem run_neq_ptr_same25 (w : World) (a : Addr) : (binOp .neq 25 (.pointer (some a)) (.pointer (some a))).run Yba.prog w = .ok (.bool false) w := by
  obtain ⟨j, hj, hs⟩ := Option.map_eq_some_iff.1 info42
  have h : ∀ d : Nat, (Op.equalIn (d + 1) 25 (.pointer (some a)) (.pointer (some a))).run Yba.prog w = .ok true w := fun d => by
    simp [Op.equalIn, run_underlying Yba.underlying25, sizeOf, typeInfo, hj, run_sameAddr_same]
  simp only [binOp]
  simp [Op.equal, Op.maxDepth, h 9999]

section
variable {th nx ak nm : Nat → Int} {now : Int} {n i : Nat}
theorem res_skip (h : inB th nx now i = false) : (ins th nx now (i + 1)).filter (topB th nx ak nm now n) = (ins th nx now i).filter (topB th nx ak nm now n) := by
  rw [ins_succ, h]; simp
theorem res_low (h : inB th nx now i = true) (ht : topB th nx ak nm now n i = false) : (ins th nx now (i + 1)).filter (topB th nx ak nm now n) = (ins th nx now i).filter (topB th nx ak nm now n) := by
  rw [ins_succ, h]; simp [List.filter_append, ht]
theorem res_top (h : inB th nx now i = true) (ht : topB th nx ak nm now n i = true) : (ins th nx now (i + 1)).filter (topB th nx ak nm now n) = (ins th nx now i).filter (topB th nx ak nm now n) ++ [i] := by
  rw [ins_succ, h]; simp [List.filter_append, ht]

theorem ins_pre (i : Nat) : ∀ d, ∃ l, ins th nx now (i + d) = ins th nx now i ++ l
  | 0 => ⟨[], by simp⟩
  | d + 1 => by
    obtain ⟨l, hl⟩ := ins_pre i d
    refine ⟨l ++ (if inB th nx now (i + d) then [i + d] else []), ?_⟩
    rw [← Nat.add_assoc, ins_succ, hl, List.append_assoc]

/-- Where an in-time i at the top stands in the result. -/
theorem res_at (hi : i < n) (h : inB th nx now i = true) (ht : topB th nx ak nm now n i = true) :
    (res th nx ak nm now n)[((ins th nx now i).filter (topB th nx ak nm now n)).length]? = some i ∧ ((ins th nx now i).filter (topB th nx ak nm now n)).length < (res th nx ak nm now n).length := by
  obtain ⟨l, hl⟩ := ins_pre (th := th) (nx := nx) (now := now) (i + 1) (n - (i + 1))
  rw [show i + 1 + (n - (i + 1)) = n by omega] at hl
  have e : res th nx ak nm now n = (ins th nx now i).filter (topB th nx ak nm now n) ++ (i :: l.filter (topB th nx ak nm now n)) := by
    unfold res
    rw [hl, List.filter_append, res_top h ht, List.append_assoc]; rfl
  rw [e]
  constructor
  · rw [List.getElem?_append_right (Nat.le_refl _)]; simp
  · simp
end

/-- Entry m puts entry i down. -/
def Beats (th nx ak nm : Nat → Int) (now : Int) (m i : Nat) : Prop := inB th nx now m = true ∧ keyN (ak m) = keyN (ak i) ∧ nm i < nm m

theorem no_next {th nx ak nm : Nat → Int} {now : Int} {i j : Nat} (h : ∀ m, m < j → ¬ Beats th nx ak nm now m i) (hj : ¬ Beats th nx ak nm now j i) : ∀ m, m < j + 1 → ¬ Beats th nx ak nm now m i := fun m hm => by
  rcases Nat.lt_or_ge m j with g | g
  · exact h m g
  · have : m = j := by omega
    subst this; exact hj

theorem top_iff {th nx ak nm : Nat → Int} {now : Int} {n i : Nat} : topB th nx ak nm now n i = true ↔ ∀ m, m < n → ¬ Beats th nx ak nm now m i := by
  unfold topB Beats
  rw [List.all_eq_true]
  constructor
  · intro h m hm hb
    have := h m (by simpa using hm)
    simp [hb.1, hb.2.1] at this
    omega
  · intro h m hm
    have := h m (by simpa using hm)
    simp only [Bool.not_eq_true', Bool.and_eq_false_iff]
    cases hb : inB th nx now m
    · simp
    · by_cases hk : keyN (ak m) = keyN (ak i)
      · have : ¬ nm i < nm m := fun h' => this ⟨hb, hk, h'⟩
        simp [hk]; omega
      · simp [hk]

theorem Later.far {wx wr : World} (hB : Below wx.heap.size wx wr) {p : Addr} {v : Value} (h : wx.cell? p = some v) (x : Later wr.heap.size wr) : x.1.cell? p = some v :=
  x.cell (keepCell hB h (World.block_lt_of_cell? wx p h)) (Nat.lt_of_lt_of_le (World.block_lt_of_cell? wx p h) hB.size)

set_option maxHeartbeats 1000000 in
theorem law_pos (b off n c : Nat) (th nx ak nm : Nat → Int) (now : Int) (w : World) (hn : n ≤ 1024) (hb : b < w.heap.size) (he : Ents w b off n th nx ak nm) (hr : Rng n th nx ak nm) (w0 : -9223372036854775808 ≤ now) (w1 : now ≤ 9223372036854775807) :
    Calls Yba.prog 3 #[.slice (some ⟨b, off, none⟩) n c, .int .i64 now] w fun e w' => e = .returned (.bool true) ∧ Below w.heap.size w w' := by
  obtain ⟨i0, hi, hz0, hz1, hz2⟩ := info_parts info25
  obtain ⟨j0, hj, hy0, hy1, hy2⟩ := info_parts info4
  have HE := hid he
  have HR := hid hr
  clear he hr
  go_enter Yba.func3, Yba.ntmps3
  go_wp2_with fail
  refine (build_pos b off n c th nx ak nm w hn hb HE.out HR.out).mono ?_
  rintro e wb ⟨mp, rfl, hM, hB⟩
  have hL : w.heap.size + 1 < wb.heap.size := by obtain ⟨⟨cur, hh, _⟩, _⟩ := hM; exact block_lt hh
  go_wp2_with (at_make; refine wpList_make_full _ rfl _ _ 23 rfl wb.heap.size 25 i0 _ 1 Yba.underlying23 hi hz0 hz1 _ _ _ _ n rfl rfl rfl rfl (by rw [hz2]; omega) (by unfold maxLen; omega) (Nat.le_refl _) ?_)
  intro ws hown hgrow
  have hS := Row.start (fun j => .pointer (some ⟨mp j, 0, none⟩)) hown
  have hBs : Below wb.heap.size wb ws := (Below.refl _ _).grown hgrow (Nat.le_refl _) (fun k hk => by cases hk)
  have HM := hid hM
  have HB := hid hB
  clear hown hgrow hM hB
  go_wp2_with fail
  go_loopw [7] (fun i wr => ∃ k : Nat, k ≤ n ∧ i = .int .i64 k ∧ Row wr wb.heap.size 25 n k (fun j => .pointer (some ⟨mp j, 0, none⟩)) ∧ Below wb.heap.size wb wr) (fun i _ => n - (intOf i).toNat)
  case atStart => exact ⟨0, Nat.zero_le _, rfl, hS, hBs⟩
  case round =>
    clear hS hBs
    obtain ⟨k, hk, rfl, hS, hBs⟩ := hrel
    by_cases hlt : k < n
    · have c0 : wr.cell? ⟨w.heap.size + 1, k, none⟩ = some (.pointer (some ⟨mp k, 0, none⟩)) := (hBs.cell (by exact hL)).trans (HM.out.cell k hlt)
      obtain ⟨⟨v1, c1⟩, f1⟩ := hS.old k hlt
      have HS' := hid (hS.step hlt)
      have HB' := hid (hBs.setCell (p := ⟨wb.heap.size, k, none⟩) (by exact Nat.le_refl _) (.pointer (some ⟨mp k, 0, none⟩)))
      clear hS hBs
      go_wp2_with fail
      go_roundw
      case rel => exact ⟨k + 1, by omega, by go_num, HS'.out, HB'.out⟩
      case measure => simp [intOf]; omega
    · obtain rfl : n = k := by omega
      have HS := hid hS
      have HBs := hid hBs
      clear hS hBs
      go_wp2_with fail
      refine (add_zero' now w0 w1 _).mono ?_
      rintro e wc ⟨rfl, hBc⟩
      go_wp2_with fail
      refine (current_any (w.heap.size + 1) n th nx ak nm now mp wc hn HR.out ((HM.out.kept HBs.out).kept (hBc))).mono ?_
      rintro e wd ⟨v, rfl, hown, hBd⟩
      obtain ⟨ao, cap, hv, hao⟩ := own_form (xs := (res th nx ak nm now n).map (ptr mp)) (by simpa using hown)
      simp only [List.length_map] at hv hao
      subst hv
      have hd1 : Below wr.heap.size wr wd := hBc.trans (hBd.mono hBc.size)
      have hd2 : Below wb.heap.size wb wd := HBs.out.trans (hd1.mono HBs.out.size)
      have hd3 : Below w.heap.size w wd := HB.out.trans (hd2.mono (by omega))
      have HMd := hid (HM.out.kept hd2)
      have HSd := hid (HS.out.kept (hd1.block _ HS.out.lt))
      have HEd := hid (ints_kept HE.out hd3 hb)
      have Hd3 := hid hd3
      have Hao := hid hao
      have hbd : b < wd.heap.size := Nat.lt_of_lt_of_le hb hd3.size
      have hwd : w.heap.size ≤ wd.heap.size := hd3.size
      have hresl : (res th nx ak nm now n).length ≤ 1024 := by
        have := List.length_filter_le (topB th nx ak nm now n) (ins th nx now n)
        have := ins_le th nx now n
        show ((ins th nx now n).filter (topB th nx ak nm now n)).length ≤ 1024
        omega
      clear hown hBd hBc hd1 hd2 hd3 hao HS HBs HM HB HE
      go_wp2_with (at_make; refine wpList_make_full _ rfl _ _ 33 rfl wd.heap.size 4 j0 _ 1 Yba.underlying33 hj hy0 hy1 _ _ _ _ n rfl rfl rfl rfl (by rw [hy2]; omega) (by unfold maxLen; omega) (Nat.le_refl _) ?_)
      intro wi hown hgrow
      have hI := Row.start (fun j => .bool (inB th nx now j)) hown
      have hBi : Below wd.heap.size wd wi := (Below.refl _ _).grown hgrow (Nat.le_refl _) (fun k hk => by cases hk)
      clear hown hgrow hz0 hz1 hz2 hi hy0 hy1 hy2 hj
      go_wp2_with fail
      go_loopw [10] (fun i wr => ∃ j : Nat, j ≤ n ∧ i = .int .i64 j ∧ Row wr wd.heap.size 4 n j (fun j => .bool (inB th nx now j)) ∧ Below wd.heap.size wd wr) (fun i _ => n - (intOf i).toNat)
      case atStart => exact ⟨0, Nat.zero_le _, rfl, hI, hBi⟩
      case round =>
        clear hI hBi
        obtain ⟨j, hj, rfl, hI, hBi⟩ := hrel
        by_cases hjk : j < n
        · obtain ⟨e0, e1, e2, e3⟩ := ints_kept HEd.out hBi hbd j hjk
          obtain ⟨⟨v1, c1⟩, f1⟩ := hI.old j hjk
          have HI' := hid (hI.step hjk)
          have HBx := hid hBi
          clear hI hBi
          by_cases ht : th j ≤ now
          · by_cases hx : now < nx j
            · have hin : inB th nx now j = true := by unfold inB; simp; omega
              rw [hin] at HI'
              clear hin
              have HB' := hid (HBx.out.setCell (p := ⟨wd.heap.size, j, none⟩) (by exact Nat.le_refl _) (.bool true))
              go_wp2_with fail
              go_roundw
              case rel => exact ⟨j + 1, by omega, by go_num, HI'.out, HB'.out⟩
              case measure => simp [intOf]; omega
            · have hin : inB th nx now j = false := by unfold inB; simp; omega
              rw [hin] at HI'
              clear hin
              have HB' := hid (HBx.out.setCell (p := ⟨wd.heap.size, j, none⟩) (by exact Nat.le_refl _) (.bool false))
              have hxd : decide (now < nx j) = false := by simpa using hx
              go_wp2_with fail
              go_roundw
              case rel => exact ⟨j + 1, by omega, by go_num, HI'.out, HB'.out⟩
              case measure => simp [intOf]; omega
          · have hin : inB th nx now j = false := by unfold inB; simp; omega
            rw [hin] at HI'
            clear hin
            have HB' := hid (HBx.out.setCell (p := ⟨wd.heap.size, j, none⟩) (by exact Nat.le_refl _) (.bool false))
            have htd : decide (th j ≤ now) = false := by simpa using ht
            go_wp2_with fail
            go_roundw
            case rel => exact ⟨j + 1, by omega, by go_num, HI'.out, HB'.out⟩
            case measure => simp [intOf]; omega
        · obtain rfl : n = j := by omega
          obtain ⟨wx, hwx⟩ : ∃ wx : World, wx = wr := ⟨_, rfl⟩
          subst hwx
          have HMx := hid (HMd.out.kept hBi)
          have HSx := hid (HSd.out.kept (hBi.block _ HSd.out.lt))
          have HEx := hid (ints_kept HEd.out hBi hbd)
          have HIx := hid hI
          have HBx := hid (Hd3.out.trans (hBi.mono hwd))
          have HGx := hid (fun (h : 0 < (res th nx ak nm now n).length) => got_kept (Hao.out h) hBi)
          clear HMd HSd HEd hI hBi Hao Hd3
          go_wp2_with fail
          have hne25 := fun (w : World) (a : Addr) => run_neq_ptr_same25 w a
          go_loopw [11, 12] (fun kk i wq => ∃ i' : Nat, i' ≤ n ∧ i = .int .i64 i' ∧ kk = .int .i64 (((ins th nx now i').filter (topB th nx ak nm now n)).length : Nat) ∧ Below wx.heap.size wx wq) (fun _ i _ => n - (intOf i).toNat)
          case atStart => exact ⟨0, Nat.zero_le _, rfl, rfl, Below.refl _ _⟩
          case round =>
            obtain ⟨i, hi, rfl, rfl, hBq⟩ := hrel
            by_cases hin : i < n
            · have c0 : wr.cell? ⟨wd.heap.size, i, none⟩ = some (.bool (inB th nx now i)) := keepCell hBq (HIx.out.cell i hin) HIx.out.lt
              have HBq := hid hBq
              clear hBq
              cases hI : inB th nx now i
              · rw [hI] at c0
                have Hs := hid (res_skip (th := th) (nx := nx) (ak := ak) (nm := nm) (now := now) (n := n) hI)
                clear hI
                go_wp2_with fail
                go_roundw
                case rel => exact ⟨i + 1, by omega, by go_num, by rw [Hs.out], HBq.out⟩
                case measure => simp [intOf]; omega
              · rw [hI] at c0
                have HI1 := hid hI
                clear hI
                go_wp2_with fail
                obtain ⟨wo, hwo⟩ : ∃ wo : World, wo = wr := ⟨_, rfl⟩
                subst hwo
                go_loopw [13, 14] (fun top jj wq => ∃ j' : Nat, j' ≤ n ∧ jj = .int .i64 j' ∧ top = .bool true ∧ (∀ m, m < j' → ¬ Beats th nx ak nm now m i) ∧ Below wx.heap.size wx wq) (fun _ jj _ => n - (intOf jj).toNat)
                case atStart => exact ⟨0, Nat.zero_le _, rfl, rfl, fun m hm => by omega, HBq.out⟩
                case round =>
                  clear HBq
                  obtain ⟨j, hj, rfl, rfl, hno, hBq⟩ := hrel
                  have Hno := hid hno
                  clear hno
                  by_cases hjn : j < n
                  · have hne : Nonempty (Later wr.heap.size wr) := ⟨⟨wr, Below.refl _ _⟩⟩
                    obtain ⟨e0, e1, e2, e3⟩ := HEx.out j hjn
                    obtain ⟨d0, d1, d2, d3⟩ := HEx.out i hin
                    obtain ⟨-, -, ⟨q0, q1⟩, -⟩ := HR.out j hjn
                    obtain ⟨-, -, ⟨p0, p1⟩, -⟩ := HR.out i hin
                    have xi := fun x => Later.far hBq (HIx.out.cell j hjn) x
                    have xa := fun x => Later.far hBq e2 x
                    have xn := fun x => Later.far hBq e3 x
                    have ya := fun x => Later.far hBq d2 x
                    have yn := fun x => Later.far hBq d3 x
                    have HBq := hid hBq
                    clear e0 e1 e2 e3 d0 d1 d2 d3 hBq
                    cases hI : inB th nx now j
                    · simp only [hI] at xi
                      have HnB := hid (show ¬ Beats th nx ak nm now j i from fun h => by have := h.1; rw [hI] at this; cases this)
                      clear hI
                      go_wp2_with fail
                      refine wp_region_later wr.heap.size (by kernel_rfl) (by kernel_rfl) ?_
                      repeat (go_big_quiet_step (fail))
                      refine wpQuiet_nil ?_
                      rintro w2 ⟨⟨w2', hb2⟩, hx⟩
                      obtain rfl : w2 = w2' := hx
                      have HB2 := hid (HBq.out.trans (hb2.mono HBq.out.size))
                      clear hb2 xi xa xn ya yn
                      go_wp2_with fail
                      go_roundw
                      case rel => exact ⟨j + 1, by omega, by go_num, rfl, no_next Hno.out HnB.out, HB2.out⟩
                      case measure => simp [intOf]; omega
                    · simp only [hI] at xi
                      have HIj := hid hI
                      clear hI
                      by_cases hk : keyN (ak j) = keyN (ak i)
                      · have hkb : (keyN (ak j) == keyN (ak i)) = true := by simpa using hk
                        by_cases hm : nm i < nm j
                        · have Ht := hid (show topB th nx ak nm now n i = false from by
                            cases h : topB th nx ak nm now n i
                            · rfl
                            · exact absurd ⟨HIj.out, hk, hm⟩ (top_iff.1 h j hjn))
                          have Hl := hid (res_low (n := n) HI1.out Ht.out)
                          clear hk
                          go_wp2_with fail
                          refine wp_region_later wr.heap.size (by kernel_rfl) (by kernel_rfl) ?_
                          repeat (go_big_quiet_step (first | (go_at_call_of 9 (ak j); exact later_same (key_any (ak j) q0 q1 _)) | (go_at_call_of 9 (ak i); exact later_same (key_any (ak i) p0 p1 _))))
                          refine wpQuiet_nil ?_
                          rintro w2 ⟨⟨w2', hb2⟩, hx⟩
                          obtain rfl : w2 = w2' := hx
                          have HB2 := hid (HBq.out.trans (hb2.mono HBq.out.size))
                          clear hb2 xi xa xn ya yn
                          go_wp2_with fail
                          go_roundw
                          case rel => exact ⟨i + 1, by omega, by go_num, by rw [Hl.out], HB2.out⟩
                          case measure => simp [intOf]; omega
                        · have HnB := hid (show ¬ Beats th nx ak nm now j i from fun h => hm h.2.2)
                          have hmd : decide (nm i < nm j) = false := by simpa using hm
                          clear hk
                          go_wp2_with fail
                          refine wp_region_later wr.heap.size (by kernel_rfl) (by kernel_rfl) ?_
                          repeat (go_big_quiet_step (first | (go_at_call_of 9 (ak j); exact later_same (key_any (ak j) q0 q1 _)) | (go_at_call_of 9 (ak i); exact later_same (key_any (ak i) p0 p1 _))))
                          refine wpQuiet_nil ?_
                          rintro w2 ⟨⟨w2', hb2⟩, hx⟩
                          obtain rfl : w2 = w2' := hx
                          have HB2 := hid (HBq.out.trans (hb2.mono HBq.out.size))
                          clear hb2 xi xa xn ya yn
                          go_wp2_with fail
                          go_roundw
                          case rel => exact ⟨j + 1, by omega, by go_num, rfl, no_next Hno.out HnB.out, HB2.out⟩
                          case measure => simp [intOf]; omega
                      · have hkb : (keyN (ak j) == keyN (ak i)) = false := by simpa using hk
                        have HnB := hid (show ¬ Beats th nx ak nm now j i from fun h => hk h.2.1)
                        clear hk
                        go_wp2_with fail
                        refine wp_region_later wr.heap.size (by kernel_rfl) (by kernel_rfl) ?_
                        repeat (go_big_quiet_step (first | (go_at_call_of 9 (ak j); exact later_same (key_any (ak j) q0 q1 _)) | (go_at_call_of 9 (ak i); exact later_same (key_any (ak i) p0 p1 _))))
                        refine wpQuiet_nil ?_
                        rintro w2 ⟨⟨w2', hb2⟩, hx⟩
                        obtain rfl : w2 = w2' := hx
                        have HB2 := hid (HBq.out.trans (hb2.mono HBq.out.size))
                        clear hb2 xi xa xn ya yn
                        go_wp2_with fail
                        go_roundw
                        case rel => exact ⟨j + 1, by omega, by go_num, rfl, no_next Hno.out HnB.out, HB2.out⟩
                        case measure => simp [intOf]; omega
                  · have ht := top_iff.2 (fun m hm => Hno.out m (by omega) : ∀ m, m < n → ¬ Beats th nx ak nm now m i)
                    obtain ⟨hat, hlen⟩ := res_at hin HI1.out ht
                    obtain ⟨g, hg, hgc⟩ := HGx.out (by omega)
                    subst hg
                    have hne : Nonempty (Later wr.heap.size wr) := ⟨⟨wr, Below.refl _ _⟩⟩
                    have xg := fun x => Later.far hBq (hgc _ _ (by rw [List.getElem?_map, hat]; rfl)) x
                    have xs := fun x => Later.far hBq (HSx.out.cell i hin) x
                    have Hl := hid (congrArg List.length (res_top (n := n) HI1.out ht))
                    have HBq := hid hBq
                    simp only [ptr] at xg
                    generalize hkk : ((ins th nx now i).filter (topB th nx ak nm now n)).length = kk at *
                    have Hkk := hid hkk
                    have hgd : decide ((res th nx ak nm now n).length ≤ kk) = false := by simp; omega
                    clear hat hgc hBq ht hkk
                    go_wp2_with fail
                    refine wp_region_later wr.heap.size (by kernel_rfl) (by kernel_rfl) ?_
                    repeat (go_big_quiet_step (fail))
                    refine wpQuiet_nil ?_
                    rintro w2 ⟨⟨w2', hb2⟩, hx⟩
                    obtain rfl : w2 = w2' := hx
                    have HB2 := hid (HBq.out.trans (hb2.mono HBq.out.size))
                    clear hb2 xg xs
                    go_wp2_with fail
                    go_roundw
                    case rel => exact ⟨i + 1, by omega, by go_num, by rw [Hl.out]; simp [Hkk.out], HB2.out⟩
                    case measure => simp [intOf]; omega
            · have e1 : i = n := by omega
              have Hl : Hid (((ins th nx now i).filter (topB th nx ak nm now n)).length = (res th nx ak nm now n).length) := by rw [e1]; rfl
              rw [Hl.out]
              have HBq := hid hBq
              clear hBq e1 Hl
              go_wp2_with fail
              go_loopw [15] (fun i wq => ∃ i' : Nat, i' ≤ n ∧ i = .int .i64 i' ∧ Below wx.heap.size wx wq) (fun i _ => n - (intOf i).toNat)
              case atStart => exact ⟨0, Nat.zero_le _, rfl, HBq.out⟩
              case round =>
                clear HBq
                obtain ⟨i, hi, rfl, hBq⟩ := hrel
                by_cases hin : i < n
                · have hne : Nonempty (Later wr.heap.size wr) := ⟨⟨wr, Below.refl _ _⟩⟩
                  obtain ⟨e0, e1, e2, e3⟩ := HEx.out i hin
                  obtain ⟨r, v, hman, hbig, hby⟩ := HMx.out.2 i hin
                  have xl := fun x => Later.far hBq (HMx.out.cell i hin) x
                  have xs := fun x => Later.far hBq (HSx.out.cell i hin) x
                  have xm : ∀ x : Later wr.heap.size wr, x.1.cell? ⟨mp i, 0, none⟩ = some (.pointer (some ⟨r, 0, none⟩)) := fun x => Later.far hBq (block_cell hman 0) x
                  have xn := fun x => Later.far hBq e3 x
                  have xb := hid (fun x : Later wr.heap.size wr => (hbig.kept (Keeps.of_below hBq)).kept (Keeps.of_below x.2))
                  obtain ⟨sg, hsg, hsd⟩ : ∃ sg : Int, (if nm i = 0 then (0 : Int) else 1) = sg ∧ decide (sg < 0) = false := ⟨_, rfl, by split <;> decide⟩
                  have xsg := hid (fun x : Later wr.heap.size wr => by have := sign_any r (nm i) x.1 (xb.out x); rw [hsg] at this; exact this)
                  have HBq := hid hBq
                  clear e0 e1 e2 e3 hman hbig hby hBq hsg
                  go_wp2_with fail
                  refine wp_region_later wr.heap.size (by kernel_rfl) (by kernel_rfl) ?_
                  repeat (go_big_quiet_step (first | (go_at_call 10; exact later_same (xsg.out _)) | (go_at_call 11; exact later_same (uint64_any r (nm i) _ (xb.out _)))))
                  refine wpQuiet_nil ?_
                  rintro w2 ⟨⟨w2', hb2⟩, hx⟩
                  obtain rfl : w2 = w2' := hx
                  have HB2 := hid (HBq.out.trans (hb2.mono HBq.out.size))
                  clear hb2 xl xs xm xn xb xsg
                  go_wp2_with fail
                  go_roundw
                  case rel => exact ⟨i + 1, by omega, by go_num, HB2.out⟩
                  case measure => simp [intOf]; omega
                · have HBf := hid (HBx.out.trans (hBq.mono HBx.out.size))
                  clear hBq
                  go_wp2_with fail
                  go_ret
                  exact ⟨rfl, HBf.out⟩
end Go.Proofs.Ybulkcajm.BM
