import Derived.Test.YbulkcamsDoorKPOne
import Derived.Laws.AppendOwnNone
namespace Go.Proofs.YbulkcamsDoor.KP
open Go.RowKit Ext
open MapFn (MapIs upd upd_same upd_other)
set_option maxRecDepth 10000
set_option linter.unusedSimpArgs false
set_option linter.unusedVariables false

theorem info62 : (Ybad.prog.info? 62).map (fun i => (i.zero, i.size, i.bytes)) = some (some (.int .u32 0), 1, 4) := by kernel_rfl

/-- A list of ids that came in: nil, or a row of cells. -/
def Src (w : World) (ao : Option Addr) (n c : Nat) (A : Nat → Int) : Prop :=
  (ao = none ∧ n = 0 ∧ c = 0) ∨ ∃ ad, ao = some ad ∧ ∀ j, j < n → w.cell? (ad.add j) = some (.int .u32 (A j)) ∧ 0 ≤ A j ∧ A j < 4294967296

theorem Src.below {w w' : World} {ao : Option Addr} {n c : Nat} {A : Nat → Int} {B : Nat} (h : Src w ao n c A) (hb : Below B w w') (hB : w.heap.size ≤ B) : Src w' ao n c A := by
  rcases h with h | ⟨ad, rfl, h⟩
  · exact .inl h
  · refine .inr ⟨ad, rfl, fun j hj => ⟨?_, (h j hj).2⟩⟩
    exact (hb.cell (Nat.lt_of_lt_of_le (World.block_lt_of_cell? _ _ (h j hj).1) hB)).trans (h j hj).1

theorem Src.ids {w : World} {ao : Option Addr} {n c : Nat} {A : Nat → Int} (h : Src w ao n c A) (h0 : 0 < n) : ∃ b off, ao = some ⟨b, off, none⟩ ∧ b < w.heap.size ∧ Ids w b off n A := by
  rcases h with ⟨_, rfl, _⟩ | ⟨⟨b, off, sp⟩, rfl, h⟩
  · omega
  · have hsp : sp = none := by simpa [Addr.add] using World.cell?_spot (h 0 h0).1
    subst hsp
    exact ⟨b, off, rfl, World.block_lt_of_cell? _ _ (h 0 h0).1, fun j hj => ⟨by rw [← Addr.add_lit]; exact (h j hj).1, (h j hj).2⟩⟩

theorem build_gen (ao : Option Addr) (n c : Nat) (A : Nat → Int) (w : World) (hn : n ≤ 2048) (h : Src w ao n c A) :
    Calls Ybad.prog 7 #[.slice ao n c] w fun e w' => ∃ bo, e = .returned (.slice bo n n) ∧ (0 < n → ∃ R, bo = some ⟨R, 0, none⟩ ∧ Txs w' R n n A) ∧ Below w.heap.size w w' := by
  rcases Nat.eq_zero_or_pos n with rfl | h0
  · refine (build_none ao c w).mono ?_
    rintro e w' ⟨bo, rfl, hb⟩
    exact ⟨bo, rfl, fun h => by omega, hb⟩
  · obtain ⟨b, off, rfl, hlt, hI⟩ := h.ids h0
    refine (build_any b off n c A w h0 hn hlt hI).mono ?_
    rintro e w' ⟨rfl, hT, hb⟩
    exact ⟨_, rfl, fun _ => ⟨_, rfl, hT⟩, hb⟩

/-- The cache with its first h items kept, none let go. -/
def Cst (w : World) (C : Nat) (mid : ByteArray) (ids sz : Nat → Int) (d : Int) (h : Nat) : Prop :=
  (h = 0 → IsC w C (.map none) (.pointer none) (.pointer none) 0 0) ∧
  (0 < h → ∃ O I el kr, C < O ∧ C < I ∧ LS w C (.map (some O)) el kr (fun i => krArr mid (ids i) d (sz i)) 0 h (tot sz h) ∧ MapS w O (one mid I) 1 ∧ MapU w I (idx ids el 0 h) (cntTo ids h))

theorem Cst.below {w w' : World} {C : Nat} {mid : ByteArray} {ids sz : Nat → Int} {d : Int} {h : Nat} (hc : Cst w C mid ids sz d h) (hb : Below w.heap.size w w') : Cst w' C mid ids sz d h := by
  refine ⟨fun e => ?_, fun e => ?_⟩
  · have := hc.1 e
    exact (hb.block _ (block_lt this)).trans this
  · obtain ⟨O, I, el, kr, h1, h2, h3, h4, h5⟩ := hc.2 e
    exact ⟨O, I, el, kr, h1, h2, h3.below hb, h4.kept (hb.block _ (by obtain ⟨_, _, e⟩ := isMap h4; exact block_lt e)), h5.kept (hb.block _ (by obtain ⟨_, _, e⟩ := isMap h5; exact block_lt e))⟩

theorem Cst.lt {w : World} {C : Nat} {mid : ByteArray} {ids sz : Nat → Int} {d : Int} {h : Nat} (hc : Cst w C mid ids sz d h) : C < w.heap.size := by
  rcases Nat.eq_zero_or_pos h with e | e
  · exact block_lt (hc.1 e)
  · obtain ⟨O, I, el, kr, h1, h2, h3, h4, h5⟩ := hc.2 e
    exact h3.lt_c

theorem Txs.congr {w : World} {R n k : Nat} {ids ids' : Nat → Int} (h : Txs w R n k ids) (he : ∀ j, j < k → ids' j = ids j) : Txs w R n k ids' := by
  obtain ⟨cur, h1, h2, h3⟩ := h
  refine ⟨cur, h1, h2, fun j hj => ?_⟩
  obtain ⟨a, ⟨v, b, b'⟩, r⟩ := h3 j hj
  exact ⟨a, ⟨v, b, fun hk => by rw [he j hk]; exact b' hk⟩, r⟩

theorem keep_gen (C n h : Nat) (bo : Option Addr) (d text : Int) (mid : ByteArray) (ids sz : Nat → Int) (w : World) (hn : n ≤ 1024) (hh : h ≤ 1024) (d0 : -9223372036854775808 ≤ d) (d1 : d ≤ 9223372036854775807) (t0 : -1125899906842624 ≤ text) (t1 : text ≤ 1125899906842624) (hS : okS mid)
    (hc : Cst w C mid ids sz d h) (hT : 0 < n → ∃ R, bo = some ⟨R, 0, none⟩ ∧ Txs w R n n (fun j => ids (h + j))) (hU : ∀ i, okU (ids i)) (hsz : ∀ j, j < n → sz (h + j) = text.tdiv n + 256)
    (hbd : ∀ i j, i ≤ j → j ≤ h + n → -4611686018427387904 ≤ tot sz j - tot sz i ∧ tot sz j - tot sz i ≤ 4611686018427387904) (htot : tot sz (h + n) ≤ 4194304)
    (hg : w.cell? ⟨0, 0, none⟩ = some (.int .i64 90000000000)) (hC0 : 0 < C) :
    Calls Ybad.prog 6 #[.pointer (some ⟨C, 0, none⟩), .agg #[.int .u64 (d % 1000000000), .int .i64 (d / 1000000000), .pointer none], .string mid, .agg #[.int .u64 0, .int .u64 0, .pointer none, .int .u16 0], .slice bo n n, .int .i64 text] w fun e w' => e = .returned (.tuple #[]) ∧ Cst w' C mid ids sz d (h + n) ∧ Fr C w w' := by
  rcases Nat.eq_zero_or_pos n with rfl | h0
  · refine (keep_none' C d text mid bo w).mono ?_
    rintro e w' ⟨rfl, hb⟩
    exact ⟨rfl, hc.below hb, Fr.of_below hb (Nat.le_refl _) (Nat.le_of_lt hc.lt)⟩
  · obtain ⟨R, rfl, hTx⟩ := hT h0
    have key : ∀ w', KeepPost w w' C mid ids sz d (h + n) → Cst w' C mid ids sz d (h + n) ∧ Fr C w w' := fun w' hk => by
      obtain ⟨O, I, el, kr, lo, hCO, hCI, hlo, hL, hM, hF, hle, hgt⟩ := hk
      have e : lo = 0 := by
        rcases Nat.eq_zero_or_pos lo with e | e
        · exact e
        · have := hgt 0 e
          rw [show tot sz 0 = 0 from rfl] at this
          omega
      subst e
      rw [show tot sz 0 = 0 from rfl, Int.sub_zero] at hL
      obtain ⟨m1, m2⟩ := hM.1 (by have := cnt_pos ids (show 0 < h + n by omega); rw [show cntTo ids 0 = 0 from rfl]; omega)
      exact ⟨⟨fun e => by omega, fun _ => ⟨O, I, el, kr, hCO, hCI, hL, m1, m2⟩⟩, hF⟩
    rcases Nat.eq_zero_or_pos h with e | e
    · subst e
      refine (keep_raw C R n d text mid ids sz w h0 hn d0 d1 t0 t1 hS (hc.1 rfl) hTx hU hsz hbd hg hC0).mono ?_
      rintro e w' ⟨rfl, hk⟩
      exact ⟨rfl, key w' hk⟩
    · obtain ⟨O, I, el, kr, h1, h2, h3, h4, h5⟩ := hc.2 e
      refine (keep_more C R n h O I el kr d text mid ids sz w h0 hn e hh d0 d1 t0 t1 hS h3 h4 h5 h1 h2 hTx hU hsz hbd hg hC0).mono ?_
      rintro e w' ⟨rfl, hk⟩
      exact ⟨rfl, key w' hk⟩

/-- 'append' of a list that came in, nil or not. -/
theorem wpList_append_src {w : World} {ops : Array Oper} {rest : List Oper} {o : Oper} {a : Act} {Q : Exit → Act → World → Prop} (hgd : o.guard = none) (s x : Operand)
    (ho : o.op = .call { callee := .builtin .append, args := #[s, x], argTypes := #[22, 22] }) (base : Nat) (v : Value) (n : Nat) (xs : List Value) (hs : a.eval s = v) (hown : w.ownsRow base 62 1 v n xs)
    (ao : Option Addr) (m c : Nat) (A : Nat → Int) (hx : a.eval x = .slice ao m c) (hsrc : Src w ao m c A) (h63 : n + m ≤ 4096) (hbase : base ≤ w.heap.size)
    (h : ∀ v' w', w'.ownsRow base 62 1 v' (n + m) (xs ++ (List.range m).map (fun j => .int .u32 (A j))) → w.grownBy w' v.ownBlock → wpList Ybad.prog ops Q rest (a.put o.dst v') w') : wpList Ybad.prog ops Q (o :: rest) a w := by
  obtain ⟨i0, hi, hz0, hz1, hz2⟩ := info_parts info62
  rcases hsrc with ⟨rfl, rfl, rfl⟩ | ⟨ad, rfl, hc⟩
  · refine wpList_append_own_none hgd s x 22 ho base 62 i0 1 Ybad.underlying22 hi v n xs hs hown hx ?_
    refine h v w ?_ ⟨rfl, rfl, rfl, Nat.le_refl _, fun _ _ _ => rfl⟩
    simpa using hown
  · refine wpList_append_own w hgd s x 22 ho base 62 i0 (.int .u32 0) 1 4 Ybad.underlying22 hi hz0 hz1 hz2 rfl (by decide) v n xs hs hown ad m c ((List.range m).map (fun j => .int .u32 (A j))) hx (by simp) ?_ ?_ (by unfold maxLen; omega) (by omega) hbase (fun v' w' h1 h2 _ => h v' w' h1 h2)
    · intro j u hu
      by_cases hj : j < m
      · rw [List.getElem?_map, List.getElem?_range hj] at hu
        simp at hu
        rw [← hu]; exact (hc j hj).1
      · rw [List.getElem?_eq_none (by simp; omega)] at hu; cases hu
    · intro u hu
      simp at hu
      obtain ⟨j, _, rfl⟩ := hu
      rfl

theorem tdiv_mul_le (a : Int) (n : Nat) (B : Int) (hB : 0 ≤ B) (h : a ≤ B) : (n : Int) * a.tdiv n ≤ B := by
  rcases Nat.eq_zero_or_pos n with rfl | h0
  · simp; exact hB
  by_cases ha : 0 ≤ a
  · rw [Int.tdiv_eq_ediv_of_nonneg ha, Int.mul_comm]
    have := Int.ediv_mul_le a (show (n : Int) ≠ 0 by omega)
    omega
  · have e : a.tdiv n = -((-a) / n) := by rw [show a = -(-a) by omega, Int.neg_tdiv, Int.tdiv_eq_ediv_of_nonneg (by omega)]; simp
    rw [e]
    have h1 := Int.ediv_nonneg (show 0 ≤ -a by omega) (show (0 : Int) ≤ n by omega)
    have h2 := Int.mul_nonneg (show (0 : Int) ≤ n by omega) h1
    rw [Int.mul_neg]
    omega

/-- The sizes of the two batches. -/
def szOf (na : Nat) (sa sb : Int) : Nat → Int := fun i => if i < na then sa else sb
theorem tot_first (na : Nat) (sa sb : Int) : ∀ i, i ≤ na → tot (szOf na sa sb) i = i * sa
  | 0, _ => by simp [tot]
  | i + 1, h => by
    rw [tot, tot_first na sa sb i (by omega), show szOf na sa sb i = sa from if_pos (by omega)]
    push_cast; rw [Int.add_mul]; omega
theorem tot_second (na : Nat) (sa sb : Int) : ∀ j, tot (szOf na sa sb) (na + j) = na * sa + j * sb
  | 0 => by rw [Nat.add_zero, tot_first na sa sb na (Nat.le_refl _)]; simp
  | j + 1 => by
    rw [show na + (j + 1) = (na + j) + 1 from rfl, tot, tot_second na sa sb j, show szOf na sa sb (na + j) = sb from if_neg (by omega)]
    push_cast; rw [Int.add_mul]; omega
def idsOf (na : Nat) (A B : Nat → Int) : Nat → Int := fun i => if i < na then A i else B (i - na)

theorem own_ids {w : World} {base na nb g cap n : Nat} {A B : Nat → Int} (hn : n = na + nb) (h : w.ownsRow base 62 1 (.slice (some ⟨g, 0, none⟩) n cap) n ((List.range na).map (fun j => .int .u32 (A j)) ++ (List.range nb).map (fun j => .int .u32 (B j))))
    (hA : ∀ j, j < na → 0 ≤ A j ∧ A j < 4294967296) (hB : ∀ j, j < nb → 0 ≤ B j ∧ B j < 4294967296) : Ids w g 0 n (idsOf na A B) := fun j hj => by
  have hc := h.cells (g := g) rfl j
  rw [Addr.add_lit] at hc
  unfold idsOf
  by_cases hja : j < na
  · rw [if_pos hja]
    exact ⟨hc _ (by rw [List.getElem?_append_left (by simp; omega), List.getElem?_map, List.getElem?_range hja]; rfl), hA j hja⟩
  · rw [if_neg hja]
    exact ⟨hc _ (by rw [List.getElem?_append_right (by simp; omega), List.length_map, List.length_range, List.getElem?_map, List.getElem?_range (by omega)]; rfl), hB _ (by omega)⟩

set_option maxHeartbeats 2000000 in
theorem two_in (aoa aob : Option Addr) (na ca nb cb : Nat) (d ta tb : Int) (mid : ByteArray) (A B : Nat → Int) (w : World) (hna : na ≤ 1024) (hnb : nb ≤ 1024) (d0 : -9223372036854775808 ≤ d) (d1 : d ≤ 9223372036854775807) (a0 : -1048576 ≤ ta) (a1 : ta ≤ 1048576) (b0 : -1048576 ≤ tb) (b1 : tb ≤ 1048576) (hS : okS mid)
    (hA : Src w aoa na ca A) (hB : Src w aob nb cb B) (uA : ∀ j, okU (A j)) (uB : ∀ j, okU (B j)) (hg : w.cell? ⟨0, 0, none⟩ = some (.int .i64 90000000000)) :
    Calls Ybad.prog 4 #[.int .i64 d, .string mid, .slice aoa na ca, .slice aob nb cb, .int .i64 ta, .int .i64 tb] w fun e w' => e = .returned (.bool true) ∧ Below w.heap.size w w' := by
  obtain ⟨i3, hi3, hz0, hz1, hz2⟩ := info_parts info3
  obtain ⟨i62, hi62, hy0, hy1, hy2⟩ := info_parts info62
  have hg0 : 0 < w.heap.size := World.block_lt_of_cell? _ _ hg
  have HA := hid hA
  have HB := hid hB
  have HG := hid hg
  have HUA := hid uA
  have HUB := hid uB
  clear hA hB hg uA uB
  go_enter Ybad.func4, Ybad.ntmps4
  go_wp2_with fail
  obtain ⟨wa, hwa⟩ : ∃ wa, wa = (w.alloc (.cells (cacheArr (.map none) (.pointer none) (.pointer none) 0 0) 32)).alloc (.cells apArr 43) := ⟨_, rfl⟩
  rw [← hwa]
  have aB : Below w.heap.size w wa := by rw [hwa]; exact ((Below.refl _ _).alloc (Nat.le_refl _) _).alloc (by simp) _
  have aC : IsC wa w.heap.size (.map none) (.pointer none) (.pointer none) 0 0 := by rw [hwa]; rw [IsC, Below.heap_alloc _ _ _ (by simp)]; exact heap_alloc_new _ _
  have aT : wa.heap[w.heap.size + 1]? = some (.cells apArr 43 (0, 0)) := by rw [hwa]; exact alloc_at _ _ _ (by simp)
  clear hwa
  refine (add_zero d d0 d1 wa).mono ?_
  rintro e w1 ⟨rfl, b1'⟩
  unfold timeOf
  go_wp2_with fail
  obtain ⟨wn, hwn⟩ : ∃ wn, wn = w1.alloc (.cells (nowArr d) 46) := ⟨_, rfl⟩
  rw [← hwn]
  have nB1 : Below w1.heap.size w1 wn := by rw [hwn]; exact (Below.refl _ _).alloc (Nat.le_refl _) _
  have aB1 : Below wa.heap.size wa wn := b1'.trans (nB1.mono b1'.size)
  have hnV : Vs wn w1.heap.size (w.heap.size + 1) d := ⟨by rw [hwn]; exact heap_alloc_new _ _, (aB1.block _ (block_lt aT)).trans aT⟩
  have hnC : IsC wn w.heap.size (.map none) (.pointer none) (.pointer none) 0 0 := (aB1.block _ (block_lt aC)).trans aC
  have hnB : Below w.heap.size w wn := aB.trans (aB1.mono aB.size)
  obtain ⟨ids, hids⟩ : ∃ ids, ids = idsOf na A B := ⟨_, rfl⟩
  obtain ⟨sa, hsa⟩ : ∃ sa, sa = ta.tdiv na + 256 := ⟨_, rfl⟩
  obtain ⟨sb, hsb⟩ : ∃ sb, sb = tb.tdiv nb + 256 := ⟨_, rfl⟩
  obtain ⟨sz, hsz⟩ : ∃ sz, sz = szOf na sa sb := ⟨_, rfl⟩
  have HV := hid hnV
  have HC := hid (show Cst wn w.heap.size mid ids sz d 0 from ⟨fun _ => hnC, fun h => by omega⟩)
  have HBn := hid hnB
  have hnA := hid (HA.out.below hnB (Nat.le_refl _))
  have hnBs := hid (HB.out.below hnB (Nat.le_refl _))
  have hgn := hid ((hnB.cell (by exact hg0)).trans HG.out)
  clear hwn nB1 aB1 aB aC aT hnC hnB b1'
  obtain ⟨n0, n1, n2, p0, p1, p2, p3⟩ := hnV.cells
  clear hnV
  obtain ⟨C, hC⟩ : ∃ C, C = w.heap.size := ⟨_, rfl⟩
  obtain ⟨N, hN⟩ : ∃ N, N = w1.heap.size := ⟨_, rfl⟩
  rw [← hC] at HV HC p0 p1 p2 p3 ⊢
  rw [← hN] at HV n0 n1 n2 ⊢
  have HCe := hid hC
  have hC0 : 0 < C := by omega
  clear hC hN
  -- the plain facts
  have sA : na = 0 ∨ (-1048576 ≤ ta.tdiv na ∧ ta.tdiv na ≤ 1048576) := by
    rcases Nat.eq_zero_or_pos na with e | e
    · exact .inl e
    · exact .inr (tdiv_bd ta na e 1048576 a0 a1)
  have sB : nb = 0 ∨ (-1048576 ≤ tb.tdiv nb ∧ tb.tdiv nb ≤ 1048576) := by
    rcases Nat.eq_zero_or_pos nb with e | e
    · exact .inl e
    · exact .inr (tdiv_bd tb nb e 1048576 b0 b1)
  have sA' : -1048832 ≤ sa ∧ sa ≤ 1048832 := by
    rcases sA with e | e
    · subst e; simp at hsa; omega
    · omega
  have sB' : -1048832 ≤ sb ∧ sb ≤ 1048832 := by
    rcases sB with e | e
    · subst e; simp at hsb; omega
    · omega
  have hszb : ∀ i, -1125899906842880 ≤ sz i ∧ sz i ≤ 1125899906842880 := fun i => by
    rw [hsz]; unfold szOf; split <;> omega
  have HBD := hid (tot_bd2 hszb (show na + nb ≤ 2048 by omega))
  have hta : tot sz na ≤ 1310720 := by
    rw [hsz, tot_first na sa sb na (Nat.le_refl _), hsa, Int.mul_add]
    have := tdiv_mul_le ta na 1048576 (by omega) a1
    omega
  have htb : tot sz (na + nb) ≤ 4194304 := by
    rw [hsz, tot_second na sa sb nb, hsb]
    rw [hsz, tot_first na sa sb na (Nat.le_refl _)] at hta
    rw [Int.mul_add]
    have := tdiv_mul_le tb nb 1048576 (by omega) b1
    omega
  have HTA := hid hta
  have HTB := hid htb
  have HU := hid (show ∀ i, okU (ids i) from fun i => by rw [hids]; unfold idsOf; split; exact HUA.out _; exact HUB.out _)
  have HSA := hid (show ∀ j, j < na → sz (0 + j) = ta.tdiv na + 256 from fun j hj => by rw [hsz, Nat.zero_add]; unfold szOf; rw [if_pos hj, hsa])
  have HSB := hid (show ∀ j, j < nb → sz (na + j) = tb.tdiv nb + 256 from fun j hj => by rw [hsz]; unfold szOf; rw [if_neg (by omega), hsb])
  have HIA := hid (show ∀ j, j < na → ids (0 + j) = A j from fun j hj => by rw [hids, Nat.zero_add]; unfold idsOf; rw [if_pos hj])
  have HIB := hid (show ∀ j, j < nb → ids (na + j) = B j from fun j hj => by rw [hids]; unfold idsOf; rw [if_neg (by omega), Nat.add_sub_cancel_left])
  have Hids := hid hids
  clear hta htb hszb hsz hids hsa hsb sA' sB'
  go_region_held3 (fun w' => w'.cell? ⟨N, 0, none⟩ = some (.int .u64 (d % 1000000000)) ∧ w'.cell? ⟨N, 1, none⟩ = some (.int .i64 (d / 1000000000)) ∧ w'.cell? ⟨N, 2, none⟩ = some (.pointer none) ∧ w'.cell? ⟨C + 1, 0, none⟩ = some (.int .u64 0) ∧ w'.cell? ⟨C + 1, 1, none⟩ = some (.int .u64 0) ∧ w'.cell? ⟨C + 1, 2, none⟩ = some (.pointer none) ∧ w'.cell? ⟨C + 1, 3, none⟩ = some (.int .u16 0)) (go_keep)
    (first
      | (go_at_call 7; refine (build_gen aoa na ca A wn.drew (by omega) hnA.out).mono ?_; rintro e w2 ⟨bo, rfl, hT2, hb2⟩; have HT2 := hid hT2; have HB2 : Hid (Below wn.heap.size wn w2) := (Below.refl _ _).drew.trans hb2; have HV2 := hid (HV.out.below HB2.out); obtain ⟨n0', n1', n2', p0', p1', p2', p3'⟩ := HV2.out.cells; clear hT2 hb2)
      | (go_at_call 6; refine (keep_gen C na 0 bo d ta mid ids sz w2 hna (by omega) d0 d1 (by omega) (by omega) hS (HC.out.below HB2.out) (fun h => by obtain ⟨R, e, t⟩ := HT2.out h; exact ⟨R, e, t.congr HIA.out⟩) HU.out HSA.out (fun i j h1 h2 => HBD.out i j h1 (by omega)) (by rw [Nat.zero_add]; have := HTA.out; omega) ((HB2.out.cell (World.block_lt_of_cell? _ _ hgn.out)).trans hgn.out) hC0).mono ?_; rintro e w3 ⟨rfl, hk3, hf3⟩; have HK3 := hid hk3; have HF3 := hid hf3; have HV3 := hid (HV2.out.fr hf3); obtain ⟨n0'', n1'', n2'', p0'', p1'', p2'', p3''⟩ := HV3.out.cells; clear hk3 hf3))
  clear n0 n1 n2 p0 p1 p2 p3 n0' n1' n2' p0' p1' p2' p3'
  have B3 : Below w.heap.size w w3 := HBn.out.trans ((HB2.out.mono HBn.out.size).trans (by have := HF3.out.below; rw [HCe.out] at this; exact this))
  have HB3 := hid B3
  have hK3 := HK3.out
  rw [Nat.zero_add] at hK3
  have HC3 := hid hK3
  have hSB3 := hid (HB.out.below B3 (Nat.le_refl _))
  have hg3 := hid ((B3.cell (by exact hg0)).trans HG.out)
  clear hK3 B3 HV HV2 HT2 HB2 HC HBn hnA hnBs hgn HK3 HF3
  go_wp2_with fail
  go_region_held3 (fun w' => w'.cell? ⟨N, 0, none⟩ = some (.int .u64 (d % 1000000000)) ∧ w'.cell? ⟨N, 1, none⟩ = some (.int .i64 (d / 1000000000)) ∧ w'.cell? ⟨N, 2, none⟩ = some (.pointer none) ∧ w'.cell? ⟨C + 1, 0, none⟩ = some (.int .u64 0) ∧ w'.cell? ⟨C + 1, 1, none⟩ = some (.int .u64 0) ∧ w'.cell? ⟨C + 1, 2, none⟩ = some (.pointer none) ∧ w'.cell? ⟨C + 1, 3, none⟩ = some (.int .u16 0)) (go_keep)
    (first
      | (go_at_call 7; refine (build_gen aob nb cb B w3.drew (by omega) hSB3.out).mono ?_; rintro e w4 ⟨bo4, rfl, hT4, hb4⟩; have HT4 := hid hT4; have HB4 : Hid (Below w3.heap.size w3 w4) := (Below.refl _ _).drew.trans hb4; have HV4 := hid (HV3.out.below HB4.out); obtain ⟨n0', n1', n2', p0', p1', p2', p3'⟩ := HV4.out.cells; clear hT4 hb4)
      | (go_at_call 6; refine (keep_gen C nb na bo4 d tb mid ids sz w4 hnb hna d0 d1 (by omega) (by omega) hS (HC3.out.below HB4.out) (fun h => by obtain ⟨R, e, t⟩ := HT4.out h; exact ⟨R, e, t.congr HIB.out⟩) HU.out HSB.out HBD.out HTB.out ((HB4.out.cell (World.block_lt_of_cell? _ _ hg3.out)).trans hg3.out) hC0).mono ?_; rintro e w5 ⟨rfl, hk5, hf5⟩; have HK5 := hid hk5; have HF5 := hid hf5; have HV5 := hid (HV4.out.fr hf5); obtain ⟨m0'', m1'', m2'', r0'', r1'', r2'', r3''⟩ := HV5.out.cells; clear hk5 hf5))
  clear n0'' n1'' n2'' p0'' p1'' p2'' p3'' n0' n1' n2' p0' p1' p2' p3' m0'' m1'' m2'' r0'' r1'' r2'' r3''
  have B5 : Below w.heap.size w w5 := HB3.out.trans ((HB4.out.mono HB3.out.size).trans (by have := HF5.out.below; rw [HCe.out] at this; exact this))
  have HB5 := hid B5
  obtain ⟨n, hn⟩ : ∃ n, n = na + nb := ⟨_, rfl⟩
  rw [← hn] at HK5 HBD
  have hnn : (na : Int) + nb = n := by omega
  have hn2 : n ≤ 2048 := by omega
  have Hn := hid hn
  have hSA5 := hid (HA.out.below B5 (Nat.le_refl _))
  have hSB5 := hid (HB.out.below B5 (Nat.le_refl _))
  clear B5 hn HV3 HV4 HT4 HB4 HC3 hSB3 hg3 HF5 HB3
  by_cases hz : n = 0
  · subst hz
    have hc5 := HK5.out.1 rfl
    have c0 : w5.cell? ⟨C, 0, none⟩ = some (.map none) := block_cell hc5 0
    have c6 : w5.cell? ⟨C, 6, none⟩ = some (.int .i64 0) := block_cell hc5 6
    have HC5 := hid hc5
    have q1 := eql24_nil
    clear hc5
    go_wp2_with fail
    refine (Len_is C _ _ _ _ _ w5 HC5.out).mono ?_
    rintro e w6 ⟨rfl, rfl⟩
    go_wp2_with fail
    go_ret
    exact ⟨rfl, HB5.out⟩
  · have hzb : ((n : Int) == 0) = false := by simp; omega
    go_wp2_with (at_make; refine wpList_make_own _ rfl _ _ 22 rfl w5.heap.size 62 i62 _ 1 Ybad.underlying22 hi62 hy0 hy1 _ _ _ n rfl rfl rfl (by rw [hy2]; omega) (by unfold maxLen; omega) (Nat.le_refl _) ?_)
    intro w6 hown6 hgrow6
    have b56 : Below w5.heap.size w5 w6 := (Below.refl _ _).grown hgrow6 (Nat.le_refl _) (fun k hk => by cases hk)
    have hS6 := hid (hSA5.out.below b56 (Nat.le_refl _))
    have Hb56 := hid b56
    clear hgrow6 b56
    go_wp2_with (at_builtin; refine wpList_append_src rfl _ _ rfl w5.heap.size _ 0 [] rfl hown6 aoa na ca A rfl hS6.out (by omega) Hb56.out.size ?_)
    intro v7 w7 hown7 hgrow7
    have b57 : Below w5.heap.size w5 w7 := Hb56.out.grown hgrow7 Hb56.out.size (fun k hk => (hown6.lt k hk).1)
    have hS7 := hid (hSB5.out.below b57 (Nat.le_refl _))
    have Hb57 := hid b57
    clear hgrow7 hown6 b57 hS6 Hb56
    go_wp2_with (at_builtin; refine wpList_append_src rfl _ _ rfl w5.heap.size _ na _ rfl hown7 aob nb cb B rfl hS7.out (by omega) Hb57.out.size ?_)
    intro v8 w8 hown8 hgrow8
    have b58 : Below w5.heap.size w5 w8 := Hb57.out.grown hgrow8 Hb57.out.size (fun k hk => (hown7.lt k hk).1)
    rw [← Hn.out] at hown8
    obtain ⟨g, cap, rfl, hgl⟩ : ∃ g cap, v8 = .slice (some ⟨g, 0, none⟩) n cap ∧ w5.heap.size ≤ g := by
      rcases hown8.2 with ⟨_, e, _⟩ | ⟨g, cap, cur, rfl, hb, _⟩
      · omega
      · exact ⟨g, cap, rfl, hb⟩
    have hI8 : Ids w8 g 0 n ids := by
      rw [Hids.out]
      refine own_ids Hn.out hown8 (fun j hj => ?_) (fun j hj => ?_)
      · have := HUA.out j
        have : 0 ≤ A j ∧ A j ≤ 4294967295 := by simpa [okU, Lit.wf, IntKind.min, IntKind.max, IntKind.signed, IntKind.bits] using this
        exact ⟨this.1, by omega⟩
      · have := HUB.out j
        have : 0 ≤ B j ∧ B j ≤ 4294967295 := by simpa [okU, Lit.wf, IntKind.min, IntKind.max, IntKind.signed, IntKind.bits] using this
        exact ⟨this.1, by omega⟩
    have hg8 : g < w8.heap.size := World.block_lt_of_cell? _ _ (hI8 0 (by omega)).1
    have HI8 := hid hI8
    have Hb58 := hid b58
    clear hgrow8 hown7 hown8 b58 hS7 Hb57 hI8
    go_wp2_with (at_make; refine wpList_make_full _ rfl _ _ 54 rfl w8.heap.size 3 i3 _ 1 Ybad.underlying54 hi3 hz0 hz1 _ _ _ _ n rfl rfl rfl rfl (by rw [hz2]; omega) (by unfold maxLen; omega) (by simp) ?_)
    intro w9 hown9 hgrow9
    have hB9 : Below w8.heap.size w8 w9 := (Below.refl _ _).grown hgrow9 (Nat.le_refl _) (fun k hk => by cases hk)
    have hSz := Szs.start sz hown9
    clear hown9 hgrow9 hi3 hz0 hz1 hz2 hi62 hy0 hy1 hy2
    go_wp2_with fail
    go_loopw [20] (fun i wr => ∃ k : Nat, k ≤ na ∧ i = .int .i64 k ∧ Szs wr w8.heap.size n k sz ∧ Below w8.heap.size w8 wr) (fun i _ => na - (intOf i).toNat)
    case atStart => exact ⟨0, Nat.zero_le _, rfl, hSz, hB9⟩
    case round =>
      clear hSz hB9
      obtain ⟨k, hk, rfl, hSz, hB9⟩ := hrel
      by_cases hlt : k < na
      · have hkn : k < n := by have := Hn.out; omega
        obtain ⟨⟨v, co⟩, cf⟩ := hSz.old hkn
        have hstep := hSz.step hkn
        have hsk := HSA.out k hlt
        rw [Nat.zero_add] at hsk
        rw [hsk] at hstep
        obtain ⟨q0, q1⟩ := tdiv_bd ta na (by omega) 1048576 a0 a1
        have hnz : ¬ (na : Int) = 0 := by omega
        have HS2 := hid hstep
        have HB4 := hid (hB9.setCell (p := ⟨w8.heap.size, k, none⟩) (Nat.le_refl _) (.int .i64 (ta.tdiv na + 256)))
        clear hSz hB9 hstep hsk
        go_wp2_with fail
        go_roundw
        case rel => exact ⟨k + 1, by omega, by go_num, HS2.out, HB4.out⟩
        case measure => simp [intOf]; omega
      · obtain rfl : k = na := by omega
        go_wp2_with fail
        go_loopw [21] (fun i wr => ∃ j : Nat, j ≤ nb ∧ i = .int .i64 j ∧ Szs wr w8.heap.size n (k + j) sz ∧ Below w8.heap.size w8 wr) (fun i _ => nb - (intOf i).toNat)
        case atStart => exact ⟨0, Nat.zero_le _, rfl, hSz, hB9⟩
        case round =>
          clear hSz hB9
          obtain ⟨j, hj, rfl, hSz, hB9⟩ := hrel
          by_cases hjlt : j < nb
          · obtain ⟨ix, hix⟩ : ∃ ix, ix = k + j := ⟨_, rfl⟩
            have hkn : ix < n := by have := Hn.out; omega
            have hsk := HSB.out j hjlt
            rw [← hix] at hSz hsk
            obtain ⟨⟨v, co⟩, cf⟩ := hSz.old hkn
            have hstep := hSz.step hkn
            rw [hsk] at hstep
            obtain ⟨q0, q1⟩ := tdiv_bd tb nb (by omega) 1048576 b0 b1
            have hnz : ¬ (nb : Int) = 0 := by omega
            have hxi : (k : Int) + j = ix := by omega
            have HIX := hid hix
            have HS2 := hid hstep
            have HB4 := hid (hB9.setCell (p := ⟨w8.heap.size, ix, none⟩) (Nat.le_refl _) (.int .i64 (tb.tdiv nb + 256)))
            clear hSz hB9 hstep hsk hix
            go_wp2_with fail
            go_roundw
            case rel => exact ⟨j + 1, by omega, by go_num, by rw [show k + (j + 1) = ix + 1 by have := HIX.out; omega]; exact HS2.out, HB4.out⟩
            case measure => simp [intOf]; omega
          · obtain rfl : j = nb := by omega
            rw [← Hn.out] at hSz
            obtain ⟨O, I, el, kr, hCO, hCI, hL, hM1, hM2⟩ := HK5.out.2 (by omega)
            have B9 : Below w5.heap.size w5 wr := Hb58.out.trans (hB9.mono Hb58.out.size)
            have hL9 : LS wr C (.map (some O)) el kr (fun i => krArr mid (ids i) d (sz i)) 0 n (tot sz n - tot sz 0) := by rw [show tot sz 0 = 0 from rfl, Int.sub_zero]; exact hL.below B9
            have hM9 : MapSt wr O I mid (idx ids el 0 n) (cntTo ids n - cntTo ids 0) := by
              refine MapSt.below (w := w5) ⟨fun _ => ⟨hM1, hM2⟩, fun e => ?_⟩ B9
              have := cnt_pos ids (show 0 < n by omega); rw [show cntTo ids 0 = 0 from rfl] at e; omega
            have hV9 := HV5.out.below B9
            obtain ⟨_, _, _, p0, p1, p2, p3⟩ := hV9.cells
            have HCK := hid (check_any C O I g 0 n cap w8.heap.size 0 el kr ids sz d mid wr (by omega) hn2 (Nat.zero_le _) hL9 hM9 (HI8.out.below hB9 hg8) (fun j hj => hSz.cell hj) HBD.out hS HU.out)
            have HBW := hid (HB5.out.trans (B9.mono HB5.out.size))
            clear hL hM1 hM2 hL9 hM9 hV9 hSz hB9 B9
            go_wp2_with fail
            refine HCK.out.mono ?_
            rintro e w10 ⟨rfl, hb10⟩
            go_wp2_with fail
            go_ret
            exact ⟨rfl, HBW.out.trans (hb10.mono HBW.out.size)⟩

set_option maxHeartbeats 1000000 in
theorem two_out (aoa aob : Option Addr) (na ca nb cb : Nat) (d ta tb : Int) (mid : ByteArray) (w : World) (h : 1024 < na ∨ 1024 < nb ∨ ta < -1048576 ∨ 1048576 < ta ∨ tb < -1048576 ∨ 1048576 < tb) :
    Calls Ybad.prog 4 #[.int .i64 d, .string mid, .slice aoa na ca, .slice aob nb cb, .int .i64 ta, .int .i64 tb] w fun e w' => e = .returned (.bool true) ∧ Below w.heap.size w w' := by
  by_cases h1 : (1024 : Int) < na
  · clear h
    go_enter Ybad.func4, Ybad.ntmps4
    go_wp2_with fail
    go_ret
    exact ⟨rfl, Below.refl _ _⟩
  by_cases h2 : (1024 : Int) < nb
  · clear h
    go_enter Ybad.func4, Ybad.ntmps4
    go_wp2_with fail
    go_ret
    exact ⟨rfl, Below.refl _ _⟩
  by_cases h3 : ta < -1048576
  · clear h
    go_enter Ybad.func4, Ybad.ntmps4
    go_wp2_with fail
    go_ret
    exact ⟨rfl, Below.refl _ _⟩
  by_cases h4 : 1048576 < ta
  · clear h
    go_enter Ybad.func4, Ybad.ntmps4
    go_wp2_with fail
    go_ret
    exact ⟨rfl, Below.refl _ _⟩
  by_cases h5 : tb < -1048576
  · clear h
    go_enter Ybad.func4, Ybad.ntmps4
    go_wp2_with fail
    go_ret
    exact ⟨rfl, Below.refl _ _⟩
  · have h6 : 1048576 < tb := by omega
    clear h
    go_enter Ybad.func4, Ybad.ntmps4
    go_wp2_with fail
    go_ret
    exact ⟨rfl, Below.refl _ _⟩
end Go.Proofs.YbulkcamsDoor.KP
