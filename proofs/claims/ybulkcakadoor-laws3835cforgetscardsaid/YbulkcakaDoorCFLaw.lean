import Derived.Test.YbulkcakaDoorCFAux
namespace Go.Proofs.YbulkcakaDoor.CF
open Go.RowKit Ext
open MapFn (MapIs upd upd_same upd_other)
set_option maxRecDepth 10000
set_option linter.unusedSimpArgs false
set_option linter.unusedVariables false

theorem beq_str {a b : ByteArray} (h : a = b) : (a.toList == b.toList) = true := by subst h; simp
theorem bne_str {a b : ByteArray} (h : ¬ a = b) : (a.toList == b.toList) = false := by
  rw [beq_eq_false_iff_ne]
  intro e
  rw [ByteArray.toList_eq, ByteArray.toList_eq] at e
  exact h (WideShapes.bytes_inj e)

set_option maxHeartbeats 4000000 in
theorem law_pos (a : Addr) (b off n c : Nat) (nm : Nat → ByteArray) (rqv fuv shv : Nat → Int) (cv : Nat → Bool) (pk : Int) (tg : ByteArray) (w : World) (hn : n ≤ 512) (hn0 : 0 < n) (hb : b < w.heap.size) (he : Nodes w b off n nm rqv fuv shv cv) (hr : Rng n nm rqv fuv shv)
    (p0 : 0 ≤ pk) (p1 : pk ≤ 255) (ht : okS tg) (hz : w.cell? ⟨4, 0, none⟩ = some (.pointer (some a))) (h4 : 4 < w.heap.size) :
    Calls Ybad.prog 5 #[.slice (some ⟨b, off, none⟩) n c, .int .u8 pk, .string tg] w fun e w' => e = .returned (.bool true) ∧ Below w.heap.size w w' := by
  have HE := hid he
  have HR := hid hr
  clear he hr
  go_enter Ybad.func5, Ybad.ntmps5
  go_wp2_with fail
  refine (book_any w).mono ?_
  rintro e wb ⟨rfl, hB0, hBl0⟩
  go_wp2_with fail
  go_loopw [43] (fun i wr => ∃ k : Nat, k ≤ n ∧ i = .int .i64 k ∧ (∃ p, Book wr w.heap.size p ∧ Cnt (nms nm n) p ∧ Val nm rqv fuv shv cv k p) ∧ Below w.heap.size w wr) (fun i _ => n - (intOf i).toNat)
  case atStart => exact ⟨0, Nat.zero_le _, rfl, ⟨pl0, hB0, Cnt.zero _, Val.zero _ _ _ _ _⟩, hBl0⟩
  case round =>
    clear hB0 hBl0
    obtain ⟨k, hk, rfl, ⟨p, hBk, hC, hV⟩, hBl⟩ := hrel
    by_cases hlt : k < n
    · as_aux_lemma =>
        obtain ⟨e0, e1, e2, e3, e4⟩ := HE.out k hlt
        have c0 := keepCell hBl e0 hb
        have c1 := keepCell hBl e1 hb
        have c2 := keepCell hBl e2 hb
        have c3 := keepCell hBl e3 hb
        have c4 := keepCell hBl e4 hb
        obtain ⟨hs, hr0, hf0, hs0⟩ := HR.out k hlt
        have HBk := hid hBk
        have HC := hid hC
        have HV := hid hV
        have HBl := hid hBl
        have hl := hBk.lt
        have hmem : Hid (nm k ∈ nms nm n) := nms_mem.2 ⟨k, hlt, rfl⟩
        clear e0 e1 e2 e3 e4 hBk hC hV hBl
        go_wp2_with fail
        obtain ⟨W, hW⟩ : ∃ W, W = wr.alloc (.cells #[.string (nm k), .int .u16 (rqv k), .int .i16 (fuv k), .int .u16 (shv k), .bool (cv k)] 54) := ⟨_, rfl⟩
        rw [← hW]
        have F0 := hid (show Frame w.heap.size wr W from by rw [hW]; exact (Frame.refl _ _).alloc _)
        have B0 := hid (show Book W w.heap.size p from by rw [hW]; exact HBk.out.kept ((Below.refl _ _).alloc (Nat.le_refl _) _))
        have K0 := hid (show Copy W wr.heap.size (nm k) (rqv k) (fuv k) (shv k) (cv k) from by rw [hW]; exact Copy.new _ _ _ _ _ _)
        clear hW HBk c0 c1 c2 c3 c4
        refine (setRequest_any w.heap.size p (nm k) (rqv k) hs hr0.1 W B0.out).mono ?_
        rintro e w1 ⟨rfl, ⟨nd, b1⟩, f1⟩
        have B1 := hid b1
        have F1 := hid (F0.out.trans f1)
        have K1 := K0.out.frame f1 (by omega)
        have H1 := hid K1
        obtain ⟨d0, d1, d2, d3, d4⟩ := K1
        clear b1 f1 B0 F0 K0
        go_wp2_with fail
        refine (setFull_any w.heap.size _ (nm k) (fuv k) hs w1 B1.out).mono ?_
        rintro e w2 ⟨rfl, b2, f2⟩
        clear d0 d1 d2 d3 d4
        have B2 := hid b2
        have F2 := hid (F1.out.trans f2)
        have K2 := H1.out.frame f2 (by omega)
        have H2 := hid K2
        obtain ⟨d0, d1, d2, d3, d4⟩ := K2
        clear b2 f2 B1 F1 H1
        go_wp2_with fail
        have tb := HC.out.tot_bound (by rw [nms_len]; exact hn)
        have sb := HC.out.sh (nm k)
        obtain ⟨-, g2, -, -, -, -, g7⟩ := setFull_rest (setReq p (nm k) (rqv k) nd) (nm k) (fuv k)
        refine (setShort_any w.heap.size _ (nm k) (shv k) hs hs0.1 hs0.2 (by rw [g2]; exact sb.1) (by rw [g2]; exact sb.2) (by rw [g7]; exact tb.1) (by rw [g7]; exact tb.2) w2 B2.out).mono ?_
        rintro e w3 ⟨rfl, b3, f3⟩
        clear d0 d1 d2 d3 d4
        have B3 := hid b3
        have F3 := hid (F2.out.trans f3)
        obtain ⟨d0, d1, d2, d3, d4⟩ := H2.out.frame f3 (by omega)
        clear b3 f3 B2 F2 H2 g2 g7 tb sb
        have HC' := hid (HC.out.step (rqv := rqv) (fuv := fuv) (cv := cv) nd hmem.out hs0.1 hs0.2)
        have HV' := hid (HV.out.step nd)
        clear HC HV hmem
        cases hc : cv k
        · rw [hc] at d4
          have B4 := hid (show Book w3 w.heap.size (stepP nm rqv fuv shv cv k nd p) from by unfold stepP; rw [hc]; exact B3.out)
          have L4 := hid (HBl.out.trans (F3.out.below (by omega)))
          clear B3 F3 HBl hc
          go_wp2_with fail
          go_roundw
          case rel => exact ⟨k + 1, by omega, by go_num, ⟨_, B4.out, HC'.out, HV'.out⟩, L4.out⟩
          case measure => simp [intOf]; omega
        · rw [hc] at d4
          have hl3 := B3.out.lt
          have c6 : w3.cell? ⟨w.heap.size + 7, 6, none⟩ = some (.map (some (w.heap.size + 4))) := block_cell B3.out.1 6
          obtain ⟨w4, e4, b4, f4⟩ := put_claim (w := w3.alloc (.cells #[.int .u64 0, .int .u64 0, .pointer none] 66)) hs (B3.out.kept ((Below.refl _ _).alloc (Nat.le_refl _) _)) (g := w3.heap.size) (by omega) (alloc_at _ _ _ rfl)
          have hg3 : wr.heap.size < w3.heap.size := World.block_lt_of_cell? w3 _ d0
          have u4 : (Instr.mapUpdate 74 (.map (some (w.heap.size + 4))) (.string (nm k)) (.slice (some ⟨w3.heap.size, 0, none⟩) 1 1)).run Ybad.prog (w3.alloc (.cells #[.int .u64 0, .int .u64 0, .pointer none] 66)).drew = .ok () w4.drew := e4 1
          have d0' : (w3.alloc (.cells #[.int .u64 0, .int .u64 0, .pointer none] 66)).cell? ⟨wr.heap.size, 0, none⟩ = some (.string (nm k)) := (World.cell?_alloc_lt _ _ _ hg3).trans d0
          have c6' : (w3.alloc (.cells #[.int .u64 0, .int .u64 0, .pointer none] 66)).cell? ⟨w.heap.size + 7, 6, none⟩ = some (.map (some (w.heap.size + 4))) := (World.cell?_alloc_lt _ _ _ hl3).trans c6
          have B4 := hid (show Book w4.drew w.heap.size (stepP nm rqv fuv shv cv k nd p) from by unfold stepP; rw [hc]; exact b4)
          have L4 := hid (HBl.out.trans ((((F3.out.alloc _).trans f4).below (by omega)).drew))
          clear B3 F3 HBl hc b4 f4 e4
          go_wp2_with fail
          go_region
          clear d0 d1 d2 d3 d4 u4 d0' c6' c6
          go_wp2_with fail
          go_roundw
          case rel => exact ⟨k + 1, by omega, by go_num, ⟨_, B4.out, HC'.out, HV'.out⟩, L4.out⟩
          case measure => simp [intOf]; omega
    · obtain rfl : n = k := by omega
      have hl := hBk.lt
      have HBk := hid hBk
      have HC := hid hC
      have HV := hid hV
      have HBl := hid hBl
      clear hBk hC hV hBl
      have hix : 0 ≤ pk % (n:Int) ∧ pk % (n:Int) < n := ⟨Int.emod_nonneg _ (by omega), Int.emod_lt_of_pos _ (by omega)⟩
      have hdn : decide ((0:Int) < (n:Int)) = true := by simpa using hn0
      have key : ∃ t, okS t ∧ (((pk % 4 != 0) = true ∧ wr.cell? ⟨b, off + (pk % (n:Int)).toNat * 5, none⟩ = some (.string t)) ∨ ((pk % 4 != 0) = false ∧ t = tg)) := by
        cases hp : (pk % 4 != 0)
        · exact ⟨tg, ht, .inr ⟨rfl, rfl⟩⟩
        · have h0 : 0 ≤ pk % (n:Int) := Int.emod_nonneg _ (by omega)
          have h1 : pk % (n:Int) < n := Int.emod_lt_of_pos _ (by omega)
          have hlt : (pk % (n:Int)).toNat < n := by omega
          exact ⟨nm (pk % (n:Int)).toNat, (HR.out _ hlt).1, .inl ⟨rfl, keepCell HBl.out (HE.out _ hlt).1 hb⟩⟩
      have hle : ∀ ty, (Builtin.len_ #[72] ty #[.map (some (w.heap.size + 3))]).run Ybad.prog wr = .ok (.int .i64 p.nd) wr := fun ty => by
        obtain ⟨k1, k2, ⟨du, k3⟩, _⟩ := HBk.out
        exact MapFn.run_len k3 Ybad.underlying72
      have c4 : wr.cell? ⟨w.heap.size + 7, 4, none⟩ = some (.map (some (w.heap.size + 3))) := block_cell HBk.out.1 4
      have hzr := keepCell HBl.out hz h4
      have tb := HC.out.tot_bound (by rw [nms_len]; exact hn)
      obtain ⟨t, hts, ⟨hp4, hct⟩ | ⟨hp4, rfl⟩⟩ := key <;> (
        go_wp2_with fail
        refine (dropRequest_any a w.heap.size p t hts (HC.out.sh t).1 (HC.out.sh t).2 tb.1 tb.2 wr HBk.out hzr h4).mono ?_
        rintro e w5 ⟨rfl, b5, f5⟩
        have B5 := hid b5
        have L5 := hid (HBl.out.trans (f5.below (by omega)))
        clear b5 f5 HBk HBl hle c4 hzr
        have q2 : w5.cell? ⟨w.heap.size + 7, 2, none⟩ = some (.map (some (w.heap.size + 2))) := block_cell B5.out.1 2
        have q12 : w5.cell? ⟨w.heap.size + 7, 12, none⟩ = some (.map (some (w.heap.size + 6))) := block_cell B5.out.1 12
        have q6 : w5.cell? ⟨w.heap.size + 7, 6, none⟩ = some (.map (some (w.heap.size + 4))) := block_cell B5.out.1 6
        have q7 : w5.cell? ⟨w.heap.size + 7, 7, none⟩ = some (.map (some (w.heap.size + 5))) := block_cell B5.out.1 7
        have q4 : w5.cell? ⟨w.heap.size + 7, 4, none⟩ = some (.map (some (w.heap.size + 3))) := block_cell B5.out.1 4
        have hl5 := B5.out.lt
        have lr : (Instr.lookup 70 (.map (some (w.heap.size + 2))) (.string t) true).run Ybad.prog w5 = .ok (.tuple #[.int .i64 0, .bool false]) w5 := by
          obtain ⟨k1, k2, _⟩ := B5.out
          have := look_ints k2 hts
          have e : (dropAll p t).rq t = none := by show updI p.rq t none t = none; simp [updI]
          rw [e] at this; exact this
        have lf : (Instr.lookup 70 (.map (some (w.heap.size + 6))) (.string t) true).run Ybad.prog w5 = .ok (.tuple #[.int .i64 0, .bool false]) w5 := by
          obtain ⟨k1, k2, _, _, _, k7⟩ := B5.out
          have := look_ints k7 hts
          have e : (dropAll p t).fu t = none := by show updI p.fu t none t = none; simp [updI]
          rw [e] at this; exact this
        have es : (dropAll p t).sh t = 0 := by show updI p.sh t 0 t = 0; simp [updI]
        have ls : (Instr.lookup 75 (.map (some (w.heap.size + 5))) (.string t) true).run Ybad.prog w5 = .ok (.tuple #[.agg #[.int .i64 0, .bool false], .bool false]) w5 := by
          obtain ⟨k1, k2, _, _, k6, k7⟩ := B5.out
          have := look_short k6 hts (by rw [es]; exact Int.le_refl _) true
          rw [es] at this; exact this
        obtain ⟨vc, lc'⟩ := look_claim B5.out hts
        have lc : (Instr.lookup 74 (.map (some (w.heap.size + 4))) (.string t) true).run Ybad.prog w5 = .ok (.tuple #[vc, .bool false]) w5 := by
          have := lc' w5 rfl
          have e : (dropAll p t).cl t = false := by show updI p.cl t false t = false; simp [updI]
          rw [e] at this; exact this
        clear lc'
        go_wp2_with fail
        obtain ⟨W, hW⟩ : ∃ W, W = w5.alloc (.cells #[.int .i64 0, .bool false] 59) := ⟨_, rfl⟩
        rw [← hW]
        have hbW : Below w5.heap.size w5 W := by rw [hW]; exact (Below.refl _ _).alloc (Nat.le_refl _) _
        have BW := hid (B5.out.kept hbW)
        have LW := hid (L5.out.trans (hbW.mono (by omega)))
        have CW := hid (HC.out.drop t)
        have EW := hid (show Nodes W b off n nm rqv fuv shv cv from fun j hj => by
          obtain ⟨e0, e1, e2, e3, e4⟩ := HE.out j hj
          exact ⟨keepCell LW.out e0 hb, keepCell LW.out e1 hb, keepCell LW.out e2 hb, keepCell LW.out e3 hb, keepCell LW.out e4 hb⟩)
        clear hW hbW B5 L5 lr lf ls lc q2 q12 q6 q7 q4 hl5
        refine (short_any w.heap.size _ t hts (by rw [es]; exact Int.le_refl _) W BW.out).mono ?_
        rw [es]
        rintro e w6 ⟨rfl, h6⟩
        obtain rfl : W = w6 := h6.symm
        have q4 : W.cell? ⟨w.heap.size + 7, 4, none⟩ = some (.map (some (w.heap.size + 3))) := block_cell BW.out.1 4
        have hle : ∀ ty, (Builtin.len_ #[72] ty #[.map (some (w.heap.size + 3))]).run Ybad.prog W = .ok (.int .i64 p.nd) W := fun ty => by
          obtain ⟨k1, k2, ⟨du, k3⟩, _⟩ := BW.out
          exact MapFn.run_len k3 Ybad.underlying72
        go_wp2_with fail
        clear q4 hle es
        go_loopw [20, 21, 22, 23, 24, 158] (fun c0 c1 c2 c3 c4 i wq => ∃ i' : Nat, i' ≤ n ∧ i = .int .i64 i' ∧ (∃ x0 x1 x2 x3 x4, c0 = .int .i64 x0 ∧ c1 = .int .i64 x1 ∧ c2 = .int .i64 x2 ∧ c3 = .int .i64 x3 ∧ c4 = .int .i64 x4 ∧ Acc nm n (dropAll p t) i' x0 x1 x2 x3 x4) ∧ Below W.heap.size W wq) (fun _ _ _ _ _ i _ => n - (intOf i).toNat)
        case atStart => exact ⟨0, Nat.zero_le _, rfl, ⟨0, 0, 0, 0, 0, rfl, rfl, rfl, rfl, rfl, Acc.start CW.out⟩, Below.refl _ _⟩
        case round =>
          obtain ⟨i, hi, rfl, ⟨x0, x1, x2, x3, x4, rfl, rfl, rfl, rfl, rfl, hA⟩, hBq⟩ := hrel
          have HA := hid hA
          have HBq := hid hBq
          clear hA hBq
          by_cases hin : i < n
          · as_aux_lemma =>
              obtain ⟨e0, e1, e2, e3, e4⟩ := EW.out i hin
              have bW : b < W.heap.size := by have := LW.out.size; omega
              have c0 := keepCell HBq.out e0 bW
              have c1 := keepCell HBq.out e1 bW
              have c2 := keepCell HBq.out e2 bW
              have c3 := keepCell HBq.out e3 bW
              have c4 := keepCell HBq.out e4 bW
              clear e0 e1 e2 e3 e4
              obtain ⟨⟨y0, z0⟩, ⟨y1, z1⟩, ⟨y2, z2⟩, ⟨y3, z3⟩, y4, z4⟩ := Acc.bound CW.out hn HA.out
              by_cases heq : nm i = t
              · have HA' := hid (HA.out.none hin (by rw [heq]; exact drop_t p t))
                clear HA
                have hbs := beq_str heq
                go_wp2_with fail
                go_roundw
                case rel => exact ⟨i + 1, by omega, by go_num, ⟨x0, x1, x2, x3, x4, rfl, rfl, rfl, rfl, rfl, HA'.out⟩, HBq.out.alloc HBq.out.size _⟩
                case measure => simp [intOf]; omega
              · have hbs := bne_str heq
                go_wp2_with fail
                clear c0 c1 c2 c3 c4
                obtain ⟨V, hV⟩ : ∃ V, V = wr.alloc (.cells #[.string (nm i), .int .u16 (rqv i), .int .i16 (fuv i), .int .u16 (shv i), .bool (cv i)] 54) := ⟨_, rfl⟩
                have hbV : Below W.heap.size W V := by rw [hV]; exact HBq.out.alloc HBq.out.size _
                have hKV : Copy V wr.heap.size (nm i) (rqv i) (fuv i) (shv i) (cv i) := by rw [hV]; exact Copy.new _ _ _ _ _ _
                have hwV : wr.heap.size < V.heap.size := by rw [hV]; simp
                rw [← hV]
                have hne : Nonempty (Later V.heap.size V) := ⟨⟨V, Below.refl _ _⟩⟩
                have HbV := hid hbV
                have g0 : ∀ x : Later V.heap.size V, x.1.cell? ⟨wr.heap.size, 0, none⟩ = some (.string (nm i)) := fun x => x.cell hKV.1 hwV
                have g1 : ∀ x : Later V.heap.size V, x.1.cell? ⟨wr.heap.size, 1, none⟩ = some (.int .u16 (rqv i)) := fun x => x.cell hKV.2.1 hwV
                have g2 : ∀ x : Later V.heap.size V, x.1.cell? ⟨wr.heap.size, 2, none⟩ = some (.int .i16 (fuv i)) := fun x => x.cell hKV.2.2.1 hwV
                have g3 : ∀ x : Later V.heap.size V, x.1.cell? ⟨wr.heap.size, 3, none⟩ = some (.int .u16 (shv i)) := fun x => x.cell hKV.2.2.2.1 hwV
                have NV := hid (show ∀ x : Later V.heap.size V, Nodes x.1 b off n nm rqv fuv shv cv from fun x j hj => by
                  obtain ⟨e0, e1, e2, e3, e4⟩ := EW.out j hj
                  have hb2 : Below W.heap.size W x.1 := HbV.out.trans (x.2.mono HbV.out.size)
                  exact ⟨keepCell hb2 e0 bW, keepCell hb2 e1 bW, keepCell hb2 e2 bW, keepCell hb2 e3 bW, keepCell hb2 e4 bW⟩)
                clear hV hbV hKV
                go_loopw [27, 28, 169] (fun la an j wq => ∃ j' : Nat, j' ≤ n ∧ j = .int .i64 j' ∧ la = .bool (lastB nm i j') ∧ an = .bool (anyB nm cv (nm i) j') ∧ ∃ x : Later V.heap.size V, wq = x.1) (fun _ _ j _ => n - (intOf j).toNat)
                case atStart => exact ⟨0, Nat.zero_le _, rfl, rfl, rfl, ⟨V, Below.refl _ _⟩, rfl⟩
                case round =>
                  obtain ⟨j, hj, rfl, rfl, rfl, y, rfl⟩ := hrel
                  by_cases hjn : j < n
                  · as_aux_lemma =>
                      have f0 : ∀ x : Later V.heap.size V, x.1.cell? ⟨b, off + j * 5, none⟩ = some (.string (nm j)) := fun x => (NV.out x j hjn).1
                      have f4 : ∀ x : Later V.heap.size V, x.1.cell? ⟨b, off + j * 5 + 4, none⟩ = some (.bool (cv j)) := fun x => (NV.out x j hjn).2.2.2.2
                      go_wp2_with fail
                      by_cases hq : nm j = nm i
                      · have hbq := beq_str hq
                        refine wp_region_in y (by kernel_rfl) (by kernel_rfl) ?_
                        repeat (go_big_quiet_step (fail))
                        refine wpQuiet_nil ?_
                        rintro _ ⟨y2, rfl⟩
                        by_cases hij : i < j <;> cases hcv : cv j <;> (
                          rw [hcv] at f4
                          go_wp2_with fail
                          go_roundw
                          case rel => exact ⟨j + 1, by omega, by go_num, by simp [lastB, hq, hij], by simp [anyB, hq, hcv], y2, rfl⟩
                          case measure => simp [intOf]; omega)
                      · have hbq := bne_str hq
                        refine wp_region_in y (by kernel_rfl) (by kernel_rfl) ?_
                        repeat (go_big_quiet_step (fail))
                        refine wpQuiet_nil ?_
                        rintro _ ⟨y2, rfl⟩
                        go_wp2_with fail
                        go_roundw
                        case rel => exact ⟨j + 1, by omega, by go_num, by simp [lastB, hq], by simp [anyB, hq], y2, rfl⟩
                        case measure => simp [intOf]; omega
                  · obtain rfl : j = n := by omega
                    have hBy := hid (HbV.out.trans (y.2.mono HbV.out.size))
                    cases hla : lastB nm i j
                    · have HA' := hid (HA.out.skip hin hla)
                      go_wp2_with fail
                      go_roundw
                      case rel => exact ⟨i + 1, by omega, by go_num, ⟨x0, x1, x2, x3, x4, rfl, rfl, rfl, rfl, rfl, HA'.out⟩, hBy.out⟩
                      case measure => simp [intOf]; omega
                    · as_aux_lemma =>
                        obtain ⟨v0, v1, v2⟩ := HV.out.at_ i hin hla
                        obtain ⟨o0, o1, o2, o3⟩ := drop_o p heq
                        have v0' := o0.trans v0
                        have v1' := o1.trans v1
                        have v2' := o2.trans v2
                        have v3' := o3.trans (HV.out.cl (nm i))
                        obtain ⟨hs, hr0, hf0, hs0⟩ := HR.out i hin
                        have HA2 := hid (HA.out.last hin hla v0' v1' v2' v3' hs0.1)
                        have BX := hid (show ∀ x : Later V.heap.size V, Book x.1 w.heap.size (dropAll p t) from fun x => BW.out.kept (HbV.out.trans (x.2.mono HbV.out.size)))
                        have q2 : ∀ x : Later V.heap.size V, x.1.cell? ⟨w.heap.size + 7, 2, none⟩ = some (.map (some (w.heap.size + 2))) := fun x => block_cell (BX.out x).1 2
                        have q12 : ∀ x : Later V.heap.size V, x.1.cell? ⟨w.heap.size + 7, 12, none⟩ = some (.map (some (w.heap.size + 6))) := fun x => block_cell (BX.out x).1 12
                        have q6 : ∀ x : Later V.heap.size V, x.1.cell? ⟨w.heap.size + 7, 6, none⟩ = some (.map (some (w.heap.size + 4))) := fun x => block_cell (BX.out x).1 6
                        have q7 : ∀ x : Later V.heap.size V, x.1.cell? ⟨w.heap.size + 7, 7, none⟩ = some (.map (some (w.heap.size + 5))) := fun x => block_cell (BX.out x).1 7
                        have lr : ∀ x : Later V.heap.size V, (Instr.lookup 70 (.map (some (w.heap.size + 2))) (.string (nm i)) true).run Ybad.prog x.1 = .ok (.tuple #[.int .i64 (rqv i), .bool true]) x.1 := fun x => by
                          obtain ⟨k1, k2, _⟩ := BX.out x
                          have := look_ints k2 hs
                          rw [v0'] at this; exact this
                        obtain ⟨fz, fb, hfb, lf⟩ : ∃ (fz : Int) (fb : Bool), ((fuv i < 0 ∧ fb = false) ∨ (¬ fuv i < 0 ∧ fb = true ∧ fz = fuv i)) ∧ ∀ x : Later V.heap.size V, (Instr.lookup 70 (.map (some (w.heap.size + 6))) (.string (nm i)) true).run Ybad.prog x.1 = .ok (.tuple #[.int .i64 fz, .bool fb]) x.1 := by
                          by_cases hf : fuv i < 0
                          · refine ⟨0, false, .inl ⟨hf, rfl⟩, fun x => ?_⟩
                            obtain ⟨k1, k2, _, _, _, k7⟩ := BX.out x
                            have := look_ints k7 hs
                            rw [v1', if_pos hf] at this; exact this
                          · refine ⟨fuv i, true, .inr ⟨hf, rfl, rfl⟩, fun x => ?_⟩
                            obtain ⟨k1, k2, _, _, _, k7⟩ := BX.out x
                            have := look_ints k7 hs
                            rw [v1', if_neg hf] at this; exact this
                        obtain ⟨vd, ld⟩ := look_claim BW.out hs
                        obtain ⟨cb, hcb⟩ : ∃ cb, cb = anyB nm cv (nm i) j := ⟨_, rfl⟩
                        have lc : ∀ x : Later V.heap.size V, (Instr.lookup 74 (.map (some (w.heap.size + 4))) (.string (nm i)) true).run Ybad.prog x.1 = .ok (.tuple #[vd, .bool cb]) x.1 := fun x => by
                          have := ld x.1 ((HbV.out.trans (x.2.mono HbV.out.size)).block _ (by have := BW.out.lt; omega))
                          rw [v3', ← hcb] at this; exact this
                        obtain ⟨sb, hsb⟩ : ∃ sb, sb = decide (0 < shv i) := ⟨_, rfl⟩
                        have ls : ∀ x : Later V.heap.size V, (Instr.lookup 75 (.map (some (w.heap.size + 5))) (.string (nm i)) true).run Ybad.prog x.1 = .ok (.tuple #[.agg #[.int .i64 (shv i), .bool false], .bool sb]) x.1 := fun x => by
                          obtain ⟨k1, k2, _, _, k6, k7⟩ := BX.out x
                          have := look_short k6 hs (by rw [v2']; exact hs0.1) true
                          rw [v2', ← hsb] at this; exact this
                        rw [← hcb]
                        clear v0 v1 v2 o0 o1 o2 o3 v0' v1' v2' v3' ld HA
                        have Hcb := hid hcb
                        have Hsb := hid hsb
                        clear hcb hsb
                        go_wp2_with fail
                        refine wp_region_in y (by kernel_rfl) (by kernel_rfl) ?_
                        repeat (go_big_quiet_step (fail))
                        refine wpQuiet_nil ?_
                        rintro _ ⟨y5, rfl⟩
                        go_wp2_with fail
                        rcases hfb with ⟨hf, rfl⟩ | ⟨hf, rfl, rfl⟩ <;> (
                          refine wp_region_in y5 (by kernel_rfl) (by kernel_rfl) ?_
                          repeat (go_big_quiet_step (fail))
                          refine wpQuiet_nil ?_
                          rintro _ ⟨y6, rfl⟩
                          go_wp2_with fail
                          cases cb <;> (
                            refine wp_region_in y6 (by kernel_rfl) (by kernel_rfl) ?_
                            repeat (go_big_quiet_step (fail))
                            refine wpQuiet_nil ?_
                            rintro _ ⟨y7, rfl⟩
                            go_wp2_with fail
                            have r7 : ∀ o, (y7.1.alloc o).cell? ⟨w.heap.size + 7, 7, none⟩ = some (.map (some (w.heap.size + 5))) := fun o => q7 ⟨y7.1.alloc o, y7.2.alloc y7.2.size _⟩
                            have rg : ∀ o, (y7.1.alloc o).cell? ⟨wr.heap.size, 0, none⟩ = some (.string (nm i)) := fun o => g0 ⟨y7.1.alloc o, y7.2.alloc y7.2.size _⟩
                            have ls1 : (Instr.lookup 75 (.map (some (w.heap.size + 5))) (.string (nm i)) true).run Ybad.prog y7.1.drew = .ok (.tuple #[.agg #[.int .i64 (shv i), .bool false], .bool sb]) y7.1.drew := ls ⟨y7.1.drew, y7.2.drew⟩
                            have ls2 : ∀ o, (Instr.lookup 75 (.map (some (w.heap.size + 5))) (.string (nm i)) true).run Ybad.prog (y7.1.alloc o).drew = .ok (.tuple #[.agg #[.int .i64 (shv i), .bool false], .bool sb]) (y7.1.alloc o).drew := fun o => ls ⟨(y7.1.alloc o).drew, (y7.2.alloc y7.2.size _).drew⟩
                            go_region
                            obtain ⟨U, hU⟩ : ∃ U, U = (y7.1.alloc (.cells #[.int .i64 (shv i), .bool false] 59)).drew := ⟨_, rfl⟩
                            have hbU : Below V.heap.size V U := by rw [hU]; exact (y7.2.alloc y7.2.size _).drew
                            have n0 : U.cell? ⟨y7.1.heap.size, 0, none⟩ = some (.int .i64 (shv i)) := by rw [hU]; exact World.cell?_alloc_new _ _ _ 0
                            have n1 : U.cell? ⟨y7.1.heap.size, 1, none⟩ = some (.bool false) := by rw [hU]; exact World.cell?_alloc_new _ _ _ 1
                            have n3 : U.cell? ⟨wr.heap.size, 3, none⟩ = some (.int .u16 (shv i)) := g3 ⟨U, hbU⟩
                            have HBU := hid (HbV.out.trans (hbU.mono HbV.out.size))
                            have hsb : decide (0 < shv i) = sb := Hsb.out.symm
                            rw [← hU]
                            clear hU r7 rg ls1 ls2 ls lc lf lr q2 q12 q6 q7 hbU
                            cases sb <;> (
                              have hh := hsb
                              simp only [decide_eq_true_eq, decide_eq_false_iff_not] at hh
                              have HA3 := HA2.out
                              rw [← Hcb.out] at HA3
                              simp only [hh, if_true, if_false, Bool.false_eq_true] at HA3
                              first | rw [if_pos (show fuv i < 0 by omega)] at HA3 | rw [if_neg (show ¬ fuv i < 0 by omega)] at HA3
                              have HA4 := hid HA3
                              clear HA3 HA2
                              go_wp2_with fail
                              go_roundw
                              case rel => exact ⟨i + 1, by omega, by go_num, ⟨_, _, _, _, _, rfl, rfl, rfl, rfl, rfl, HA4.out⟩, HBU.out⟩
                              case measure => simp [intOf]; omega)))
          · as_aux_lemma =>
              obtain rfl : i = n := by omega
              obtain ⟨rfl, rfl, rfl, rfl, rfl⟩ := HA.out.done
              have BX := hid (BW.out.kept HBq.out)
              have q2 : wr.cell? ⟨w.heap.size + 7, 2, none⟩ = some (.map (some (w.heap.size + 2))) := block_cell BX.out.1 2
              have q12 : wr.cell? ⟨w.heap.size + 7, 12, none⟩ = some (.map (some (w.heap.size + 6))) := block_cell BX.out.1 12
              have q6 : wr.cell? ⟨w.heap.size + 7, 6, none⟩ = some (.map (some (w.heap.size + 4))) := block_cell BX.out.1 6
              have q7 : wr.cell? ⟨w.heap.size + 7, 7, none⟩ = some (.map (some (w.heap.size + 5))) := block_cell BX.out.1 7
              have l0 : ∀ ty, (Builtin.len_ #[70] ty #[.map (some (w.heap.size + 2))]).run Ybad.prog wr = .ok (.int .i64 (dropAll p t).nr) wr := fun ty => by
                obtain ⟨k1, k2, _⟩ := BX.out
                exact MapFn.run_len k2 Ybad.underlying70
              have l1 : ∀ ty, (Builtin.len_ #[70] ty #[.map (some (w.heap.size + 6))]).run Ybad.prog wr = .ok (.int .i64 (dropAll p t).nf) wr := fun ty => by
                obtain ⟨k1, k2, _, _, _, k7⟩ := BX.out
                exact MapFn.run_len k7 Ybad.underlying70
              have l2 : ∀ ty, (Builtin.len_ #[74] ty #[.map (some (w.heap.size + 4))]).run Ybad.prog wr = .ok (.int .i64 (dropAll p t).nc) wr := fun ty => by
                obtain ⟨k1, k2, _, ⟨cl, k4, _⟩, _, k7⟩ := BX.out
                exact MapFn.run_len k4 Ybad.underlying74
              have l3 : ∀ ty, (Builtin.len_ #[75] ty #[.map (some (w.heap.size + 5))]).run Ybad.prog wr = .ok (.int .i64 (dropAll p t).ns) wr := fun ty => by
                obtain ⟨k1, k2, _, _, k6, k7⟩ := BX.out
                exact MapFn.run_len k6 Ybad.underlying75
              have HBF := hid (LW.out.trans (HBq.out.mono LW.out.size))
              clear HA
              go_wp2_with fail
              refine (shortfall_any w.heap.size _ wr BX.out).mono ?_
              rintro e w9 ⟨rfl, hb9⟩
              have HB9 := hid (HBF.out.trans (hb9.mono HBF.out.size))
              clear hb9 q2 q12 q6 q7 l0 l1 l2 l3
              go_wp2_with fail
              go_ret
              exact ⟨rfl, HB9.out⟩)
end Go.Proofs.YbulkcakaDoor.CF
