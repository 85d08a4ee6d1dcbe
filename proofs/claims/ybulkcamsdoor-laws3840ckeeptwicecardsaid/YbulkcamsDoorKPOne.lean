import Derived.Test.YbulkcamsDoorKPCheck
namespace Go.Proofs.YbulkcamsDoor.KP
open Go.RowKit Ext
open MapFn (MapIs upd upd_same upd_other)
set_option maxRecDepth 10000
set_option linter.unusedSimpArgs false
set_option linter.unusedVariables false

theorem info3 : (Ybad.prog.info? 3).map (fun i => (i.zero, i.size, i.bytes)) = some (some (.int .i64 0), 1, 8) := by kernel_rfl

theorem tot_const (s : Int) : ∀ i, tot (fun _ => s) i = i * s
  | 0 => by simp [tot]
  | i + 1 => by rw [tot, tot_const s i]; push_cast; rw [Int.add_mul]; omega

theorem tot_bd {sz : Nat → Int} {B : Int} (h : ∀ i, -B ≤ sz i ∧ sz i ≤ B) (i : Nat) : ∀ m : Nat, -(m * B) ≤ tot sz (i + m) - tot sz i ∧ tot sz (i + m) - tot sz i ≤ m * B
  | 0 => by simp
  | m + 1 => by
    obtain ⟨a, b⟩ := tot_bd h i m
    obtain ⟨c, d⟩ := h (i + m)
    rw [show i + (m + 1) = (i + m) + 1 from rfl, tot]
    have e : ((m + 1 : Nat) : Int) * B = m * B + B := by push_cast; rw [Int.add_mul]; omega
    rw [e]
    constructor <;> omega

theorem tot_bd2 {sz : Nat → Int} (h : ∀ i, -1125899906842880 ≤ sz i ∧ sz i ≤ 1125899906842880) {N : Nat} (hN : N ≤ 2048) : ∀ i j, i ≤ j → j ≤ N → -4611686018427387904 ≤ tot sz j - tot sz i ∧ tot sz j - tot sz i ≤ 4611686018427387904 := fun i j h1 h2 => by
  obtain ⟨a, b⟩ := tot_bd h i (j - i)
  rw [show i + (j - i) = j by omega] at a b
  constructor <;> omega

/-- The eviction's reckoning. -/
theorem evict_none {n lo : Nat} {s : Int} (h2 : ∀ l, l < lo → 4194304 < tot (fun _ => s) n - tot (fun _ => s) l) (h : ¬ (0 < s ∧ 4194304 < n * s)) : lo = 0 := by
  rcases Nat.eq_zero_or_pos lo with e | e
  · exact e
  · have := h2 0 e
    rw [tot_const, tot_const] at this
    simp only [Int.ofNat_zero, Int.zero_mul, Int.sub_zero] at this
    exfalso
    apply h
    refine ⟨?_, by simpa using this⟩
    rcases Int.lt_or_le 0 s with g | g
    · exact g
    · exfalso
      have : (n : Int) * s ≤ 0 := Int.mul_nonpos_of_nonneg_of_nonpos (by omega) g
      simp at *
      omega

theorem evict_some {n lo : Nat} {s : Int} (hlo : lo ≤ n) (h1 : tot (fun _ => s) n - tot (fun _ => s) lo ≤ 4194304) (h2 : ∀ l, l < lo → 4194304 < tot (fun _ => s) n - tot (fun _ => s) l) (hs : 0 < s) (h : 4194304 < n * s) :
    0 ≤ 4194304 / s ∧ 4194304 / s < n ∧ (n : Int) - 4194304 / s = lo := by
  have e : ∀ l : Nat, l ≤ n → tot (fun _ => s) n - tot (fun _ => s) l = ((n - l : Nat) : Int) * s := fun l hl => by
    rw [tot_const, tot_const, ← Int.sub_mul]; congr 1; omega
  rw [e lo hlo] at h1
  have k0 : 0 ≤ 4194304 / s := Int.ediv_nonneg (by omega) (by omega)
  have k1 : 4194304 / s * s ≤ 4194304 := Int.ediv_mul_le _ (by omega)
  have k2 : 4194304 / s < n := by
    rcases Int.lt_or_le (4194304 / s) n with g | g
    · exact g
    · have := Int.mul_le_mul_of_nonneg_right g (show 0 ≤ s by omega); omega
  have k3 : ((n - lo : Nat) : Int) ≤ 4194304 / s := (Int.le_ediv_iff_mul_le hs).2 h1
  refine ⟨k0, k2, ?_⟩
  rcases Int.lt_or_le ((n : Int) - 4194304 / s) lo with g | g
  · exfalso
    obtain ⟨l, hl⟩ : ∃ l : Nat, (l : Int) = n - 4194304 / s := ⟨(n - 4194304 / s).toNat, by omega⟩
    have := h2 l (by omega)
    rw [e l (by omega), show ((n - l : Nat) : Int) = 4194304 / s by omega] at this
    omega
  · omega

theorem build_any' (b off n c : Nat) (ids : Nat → Int) (w : World) (h0 : 0 < n) (hn : n ≤ 2048) (hb : b < w.heap.size) (hI : Ids w b off n ids) :
    Calls Ybad.prog 7 #[.slice (some ⟨b, off, none⟩) n c] w fun e w' => ∃ R, e = .returned (.slice (some ⟨R, 0, none⟩) n n) ∧ Txs w' R n n ids ∧ Below w.heap.size w w' :=
  (build_any b off n c ids w h0 hn hb hI).mono fun _ _ ⟨a, b, c⟩ => ⟨_, a, b, c⟩

theorem keep_raw' (C R n : Nat) (d text : Int) (mid : ByteArray) (ids sz : Nat → Int) (w : World) (h0 : 0 < n) (hn : n ≤ 1024) (d0 : -9223372036854775808 ≤ d) (d1 : d ≤ 9223372036854775807) (t0 : -1125899906842624 ≤ text) (t1 : text ≤ 1125899906842624) (hS : okS mid)
    (hc : IsC w C (.map none) (.pointer none) (.pointer none) 0 0) (hT : Txs w R n n ids) (hU : ∀ i, okU (ids i)) (hsz : ∀ j, j < n → sz j = text.tdiv n + 256) (hbd : ∀ i j, i ≤ j → j ≤ n → -4611686018427387904 ≤ tot sz j - tot sz i ∧ tot sz j - tot sz i ≤ 4611686018427387904)
    (hg : w.cell? ⟨0, 0, none⟩ = some (.int .i64 90000000000)) (hC0 : 0 < C) :
    Calls Ybad.prog 6 #[.pointer (some ⟨C, 0, none⟩), .agg #[.int .u64 (d % 1000000000), .int .i64 (d / 1000000000), .pointer none], .string mid, .agg #[.int .u64 0, .int .u64 0, .pointer none, .int .u16 0], .slice (some ⟨R, 0, none⟩) n n, .int .i64 text] w fun e w' => e = .returned (.tuple #[]) ∧ KeepPost w w' C mid ids sz d n := by
  have := keep_raw C R n d text mid ids sz w h0 hn d0 d1 t0 t1 hS hc (by simpa using hT) hU (by simpa using hsz) (by simpa using hbd) hg hC0
  rw [Nat.zero_add] at this
  exact this

/-- Block S is a row of n sizes, the first k of which are those of sz. -/
def Szs (w : World) (S n k : Nat) (sz : Nat → Int) : Prop := ∃ cur : Array Value, w.heap[S]? = some (.cells cur 3 (0, 0)) ∧ cur.size = n ∧ ∀ j, j < k → cur[j]? = some (.int .i64 (sz j))
theorem Szs.old {w : World} {S n k : Nat} {sz : Nat → Int} (h : Szs w S n k sz) {i : Nat} (hi : i < n) : (∃ v, w.cell? ⟨S, i, none⟩ = some v) ∧ w.frozen? ⟨S, i, none⟩ = false := by
  obtain ⟨cur, hh, hs, _⟩ := h
  exact ⟨⟨cur[i], by simp [World.cell?, hh, hs, hi]⟩, by simp [World.frozen?, hh]⟩
theorem Szs.step {w : World} {S n k : Nat} {sz : Nat → Int} (h : Szs w S n k sz) (hk : k < n) : Szs (w.setCell ⟨S, k, none⟩ (.int .i64 (sz k))) S n (k + 1) sz := by
  obtain ⟨cur, hh, hs, hc⟩ := h
  refine ⟨_, block_set hh k _, by simp [hs], fun j hj => ?_⟩
  rw [Array.getElem?_setIfInBounds]
  by_cases e : k = j
  · subst e; simp [hs, hk]
  · rw [if_neg e]; exact hc j (by omega)
theorem Szs.cell {w : World} {S n k : Nat} {sz : Nat → Int} (h : Szs w S n k sz) {j : Nat} (hj : j < k) : w.cell? ⟨S, j, none⟩ = some (.int .i64 (sz j)) := by
  obtain ⟨cur, hh, hs, hc⟩ := h
  rw [block_cell hh]; exact hc j hj
theorem Szs.start {w : World} {base S n : Nat} {xs : List Value} (sz : Nat → Int) (h : w.ownsRow base 3 1 (.slice (some ⟨S, 0, none⟩) n n) n xs) : Szs w S n 0 sz := by
  rcases h.2 with ⟨e, _⟩ | ⟨g, cap, cur, e, _, hh, _, _, hs, _⟩
  · cases e
  · cases e
    exact ⟨cur, hh, by omega, fun j hj => by omega⟩

/-- The two variables that the law reads. -/
structure Vs (w : World) (N T : Nat) (d : Int) : Prop where
  n : w.heap[N]? = some (.cells (nowArr d) 46 (0, 0))
  t : w.heap[T]? = some (.cells apArr 43 (0, 0))
theorem Vs.below {w w' : World} {N T : Nat} {d : Int} (h : Vs w N T d) (hb : Below w.heap.size w w') : Vs w' N T d := ⟨(hb.block _ (block_lt h.n)).trans h.n, (hb.block _ (block_lt h.t)).trans h.t⟩
theorem Vs.fr {w w' : World} {N T C : Nat} {d : Int} (h : Vs w N T d) (hb : Fr C w w') : Vs w' N T d := ⟨hb.cells _ _ _ _ h.n (by decide) (by decide), hb.cells _ _ _ _ h.t (by decide) (by decide)⟩
theorem Vs.cells {w' : World} {N T : Nat} {d : Int} (h : Vs w' N T d) : w'.cell? ⟨N, 0, none⟩ = some (.int .u64 (d % 1000000000)) ∧ w'.cell? ⟨N, 1, none⟩ = some (.int .i64 (d / 1000000000)) ∧ w'.cell? ⟨N, 2, none⟩ = some (.pointer none) ∧
    w'.cell? ⟨T, 0, none⟩ = some (.int .u64 0) ∧ w'.cell? ⟨T, 1, none⟩ = some (.int .u64 0) ∧ w'.cell? ⟨T, 2, none⟩ = some (.pointer none) ∧ w'.cell? ⟨T, 3, none⟩ = some (.int .u16 0) :=
  ⟨block_cell h.n 0, block_cell h.n 1, block_cell h.n 2, block_cell h.t 0, block_cell h.t 1, block_cell h.t 2, block_cell h.t 3⟩
theorem KeepPost.fr {w w' : World} {C : Nat} {mid : ByteArray} {ids sz : Nat → Int} {d : Int} {hi : Nat} (h : KeepPost w w' C mid ids sz d hi) : Fr C w w' := by
  obtain ⟨O, I, el, kr, lo, _, _, _, _, _, f, _⟩ := h; exact f
theorem MapSt.below {w w' : World} {O I : Nat} {mid : ByteArray} {f : Int → Option Value} {cnt : Nat} (h : MapSt w O I mid f cnt) (hb : Below w.heap.size w w') : MapSt w' O I mid f cnt :=
  ⟨fun hc => ⟨(h.1 hc).1.kept (hb.block _ (by obtain ⟨_, _, e⟩ := isMap (h.1 hc).1; exact block_lt e)), (h.1 hc).2.kept (hb.block _ (by obtain ⟨_, _, e⟩ := isMap (h.1 hc).2; exact block_lt e))⟩, fun hc => (h.2 hc).kept (hb.block _ (by obtain ⟨_, _, e⟩ := isMap (h.2 hc); exact block_lt e))⟩
theorem Ids.below {w w' : World} {b off n B : Nat} {ids : Nat → Int} (h : Ids w b off n ids) (hb : Below B w w') (hB : b < B) : Ids w' b off n ids := fun j hj => ⟨(hb.cell (by exact hB)).trans (h j hj).1, (h j hj).2⟩

set_option maxHeartbeats 1000000 in
theorem one_long (ao : Option Addr) (n c : Nat) (d text : Int) (mid : ByteArray) (big : Bool) (w : World) (h : 1024 < n) :
    Calls Ybad.prog 3 #[.int .i64 d, .string mid, .slice ao n c, .int .i64 text, .bool big] w fun e w' => e = .returned (.bool true) ∧ Below w.heap.size w w' := by
  have h' : (1024 : Int) < n := by omega
  go_enter Ybad.func3, Ybad.ntmps3
  go_wp2_with fail
  go_ret
  exact ⟨rfl, Below.refl _ _⟩
set_option maxHeartbeats 1000000 in
theorem one_low (ao : Option Addr) (n c : Nat) (d text : Int) (mid : ByteArray) (big : Bool) (w : World) (hn : ¬ 1024 < n) (h : text < -1073741824) :
    Calls Ybad.prog 3 #[.int .i64 d, .string mid, .slice ao n c, .int .i64 text, .bool big] w fun e w' => e = .returned (.bool true) ∧ Below w.heap.size w w' := by
  have h' : ¬ (1024 : Int) < n := by omega
  go_enter Ybad.func3, Ybad.ntmps3
  go_wp2_with fail
  go_ret
  exact ⟨rfl, Below.refl _ _⟩
set_option maxHeartbeats 1000000 in
theorem one_high (ao : Option Addr) (n c : Nat) (d text : Int) (mid : ByteArray) (big : Bool) (w : World) (hn : ¬ 1024 < n) (h0 : ¬ text < -1073741824) (h : 1073741824 < text) :
    Calls Ybad.prog 3 #[.int .i64 d, .string mid, .slice ao n c, .int .i64 text, .bool big] w fun e w' => e = .returned (.bool true) ∧ Below w.heap.size w w' := by
  have h' : ¬ (1024 : Int) < n := by omega
  go_enter Ybad.func3, Ybad.ntmps3
  go_wp2_with fail
  go_ret
  exact ⟨rfl, Below.refl _ _⟩

theorem keep_none' (C : Nat) (d text : Int) (mid : ByteArray) (ao : Option Addr) (w : World) :
    Calls Ybad.prog 6 #[.pointer (some ⟨C, 0, none⟩), .agg #[.int .u64 (d % 1000000000), .int .i64 (d / 1000000000), .pointer none], .string mid, .agg #[.int .u64 0, .int .u64 0, .pointer none, .int .u16 0], .slice ao 0 0, .int .i64 text] w fun e w' => e = .returned (.tuple #[]) ∧ Below w.heap.size w w' := keep_none C d text mid ao w

set_option maxHeartbeats 2000000 in
theorem zero_false (ao : Option Addr) (c : Nat) (d text : Int) (mid : ByteArray) (w : World) (d0 : -9223372036854775808 ≤ d) (d1 : d ≤ 9223372036854775807) (t0 : -1073741824 ≤ text) (t1 : text ≤ 1073741824) :
    Calls Ybad.prog 3 #[.int .i64 d, .string mid, .slice ao 0 c, .int .i64 text, .bool false] w fun e w' => e = .returned (.bool true) ∧ Below w.heap.size w w' := by
  go_enter Ybad.func3, Ybad.ntmps3
  go_wp2_with fail
  obtain ⟨wa, hwa⟩ : ∃ wa, wa = (w.alloc (.cells (cacheArr (.map none) (.pointer none) (.pointer none) 0 0) 32)).alloc (.cells apArr 43) := ⟨_, rfl⟩
  rw [← hwa]
  have aB : Below w.heap.size w wa := by rw [hwa]; exact ((Below.refl _ _).alloc (Nat.le_refl _) _).alloc (by simp) _
  have aC : IsC wa w.heap.size (.map none) (.pointer none) (.pointer none) 0 0 := by rw [hwa]; rw [IsC, Below.heap_alloc _ _ _ (by simp)]; exact heap_alloc_new _ _
  have aT : wa.heap[w.heap.size + 1]? = some (.cells apArr 43 (0, 0)) := by rw [hwa]; exact alloc_at _ _ _ (by simp)
  clear hwa
  refine (add_zero d d0 d1 wa).mono ?_
  rintro e w1 ⟨rfl, b1⟩
  unfold timeOf
  go_wp2_with fail
  obtain ⟨wn, hwn⟩ : ∃ wn, wn = w1.alloc (.cells (nowArr d) 46) := ⟨_, rfl⟩
  rw [← hwn]
  have nB1 : Below w1.heap.size w1 wn := by rw [hwn]; exact (Below.refl _ _).alloc (Nat.le_refl _) _
  have aB1 : Below wa.heap.size wa wn := b1.trans (nB1.mono b1.size)
  have hnV : Vs wn w1.heap.size (w.heap.size + 1) d := ⟨by rw [hwn]; exact heap_alloc_new _ _, (aB1.block _ (block_lt aT)).trans aT⟩
  have hnC : IsC wn w.heap.size (.map none) (.pointer none) (.pointer none) 0 0 := (aB1.block _ (block_lt aC)).trans aC
  have hnB : Below w.heap.size w wn := aB.trans (aB1.mono aB.size)
  have HV := hid hnV
  have HC := hid hnC
  have HBn := hid hnB
  clear hwn nB1 aB1 aB aC aT hnC hnB b1
  obtain ⟨n0, n1, n2, p0, p1, p2, p3⟩ := hnV.cells
  clear hnV
  obtain ⟨C, hC⟩ : ∃ C, C = w.heap.size := ⟨_, rfl⟩
  obtain ⟨N, hN⟩ : ∃ N, N = w1.heap.size := ⟨_, rfl⟩
  rw [← hC] at HV HC p0 p1 p2 p3 ⊢
  rw [← hN] at HV n0 n1 n2 ⊢
  have HCe := hid hC
  clear hC hN
  go_region_held3 (fun w' => w'.cell? ⟨N, 0, none⟩ = some (.int .u64 (d % 1000000000)) ∧ w'.cell? ⟨N, 1, none⟩ = some (.int .i64 (d / 1000000000)) ∧ w'.cell? ⟨N, 2, none⟩ = some (.pointer none) ∧ w'.cell? ⟨C + 1, 0, none⟩ = some (.int .u64 0) ∧ w'.cell? ⟨C + 1, 1, none⟩ = some (.int .u64 0) ∧ w'.cell? ⟨C + 1, 2, none⟩ = some (.pointer none) ∧ w'.cell? ⟨C + 1, 3, none⟩ = some (.int .u16 0)) (go_keep)
    (first
      | (go_at_call 7; refine (build_none ao c wn.drew).mono ?_; rintro e w2 ⟨bo, rfl, hb2⟩; have HB2 : Hid (Below wn.heap.size wn w2) := (Below.refl _ _).drew.trans hb2; have HV2 := hid (HV.out.below HB2.out); obtain ⟨n0', n1', n2', p0', p1', p2', p3'⟩ := HV2.out.cells; clear hb2)
      | (go_at_call 6; refine (keep_none' C d text mid bo w2).mono ?_; rintro e w3 ⟨rfl, hk3⟩; have HK3 := hid hk3; have HV3 := hid (HV2.out.below hk3); obtain ⟨n0'', n1'', n2'', p0'', p1'', p2'', p3''⟩ := HV3.out.cells; clear hk3))
  clear n0 n1 n2 p0 p1 p2 p3 n0' n1' n2' p0' p1' p2' p3' n0'' n1'' n2'' p0'' p1'' p2'' p3''
  have B23 : Below wn.heap.size wn w3 := HB2.out.trans (HK3.out.mono HB2.out.size)
  have hC3 : IsC w3 C (.map none) (.pointer none) (.pointer none) 0 0 := (B23.block _ (block_lt HC.out)).trans HC.out
  have c0 : w3.cell? ⟨C, 0, none⟩ = some (.map none) := block_cell hC3 0
  have c6 : w3.cell? ⟨C, 6, none⟩ = some (.int .i64 0) := block_cell hC3 6
  have HC3 := hid hC3
  have HBW := hid (HBn.out.trans (B23.mono HBn.out.size))
  have q1 := eql24_nil
  clear hC3 B23 HV HV2 HV3 HB2 HK3 HC HBn
  go_wp2_with fail
  refine (Len_is C _ _ _ _ _ w3 HC3.out).mono ?_
  rintro e w4 ⟨rfl, rfl⟩
  go_wp2_with fail
  go_ret
  exact ⟨rfl, HBW.out⟩

set_option maxHeartbeats 2000000 in
theorem zero_true (ao : Option Addr) (c : Nat) (d text : Int) (mid : ByteArray) (w : World) (d0 : -9223372036854775808 ≤ d) (d1 : d ≤ 9223372036854775807) (t0 : -1073741824 ≤ text) (t1 : text ≤ 1073741824) :
    Calls Ybad.prog 3 #[.int .i64 d, .string mid, .slice ao 0 c, .int .i64 text, .bool true] w fun e w' => e = .returned (.bool true) ∧ Below w.heap.size w w' := by
  go_enter Ybad.func3, Ybad.ntmps3
  go_wp2_with fail
  obtain ⟨wa, hwa⟩ : ∃ wa, wa = (w.alloc (.cells (cacheArr (.map none) (.pointer none) (.pointer none) 0 0) 32)).alloc (.cells apArr 43) := ⟨_, rfl⟩
  rw [← hwa]
  have aB : Below w.heap.size w wa := by rw [hwa]; exact ((Below.refl _ _).alloc (Nat.le_refl _) _).alloc (by simp) _
  have aC : IsC wa w.heap.size (.map none) (.pointer none) (.pointer none) 0 0 := by rw [hwa]; rw [IsC, Below.heap_alloc _ _ _ (by simp)]; exact heap_alloc_new _ _
  have aT : wa.heap[w.heap.size + 1]? = some (.cells apArr 43 (0, 0)) := by rw [hwa]; exact alloc_at _ _ _ (by simp)
  clear hwa
  refine (add_zero d d0 d1 wa).mono ?_
  rintro e w1 ⟨rfl, b1⟩
  unfold timeOf
  go_wp2_with fail
  obtain ⟨wn, hwn⟩ : ∃ wn, wn = w1.alloc (.cells (nowArr d) 46) := ⟨_, rfl⟩
  rw [← hwn]
  have nB1 : Below w1.heap.size w1 wn := by rw [hwn]; exact (Below.refl _ _).alloc (Nat.le_refl _) _
  have aB1 : Below wa.heap.size wa wn := b1.trans (nB1.mono b1.size)
  have hnV : Vs wn w1.heap.size (w.heap.size + 1) d := ⟨by rw [hwn]; exact heap_alloc_new _ _, (aB1.block _ (block_lt aT)).trans aT⟩
  have hnC : IsC wn w.heap.size (.map none) (.pointer none) (.pointer none) 0 0 := (aB1.block _ (block_lt aC)).trans aC
  have hnB : Below w.heap.size w wn := aB.trans (aB1.mono aB.size)
  have HV := hid hnV
  have HC := hid hnC
  have HBn := hid hnB
  clear hwn nB1 aB1 aB aC aT hnC hnB b1
  obtain ⟨n0, n1, n2, p0, p1, p2, p3⟩ := hnV.cells
  clear hnV
  obtain ⟨C, hC⟩ : ∃ C, C = w.heap.size := ⟨_, rfl⟩
  obtain ⟨N, hN⟩ : ∃ N, N = w1.heap.size := ⟨_, rfl⟩
  rw [← hC] at HV HC p0 p1 p2 p3 ⊢
  rw [← hN] at HV n0 n1 n2 ⊢
  have HCe := hid hC
  clear hC hN
  go_region_held3 (fun w' => w'.cell? ⟨N, 0, none⟩ = some (.int .u64 (d % 1000000000)) ∧ w'.cell? ⟨N, 1, none⟩ = some (.int .i64 (d / 1000000000)) ∧ w'.cell? ⟨N, 2, none⟩ = some (.pointer none) ∧ w'.cell? ⟨C + 1, 0, none⟩ = some (.int .u64 0) ∧ w'.cell? ⟨C + 1, 1, none⟩ = some (.int .u64 0) ∧ w'.cell? ⟨C + 1, 2, none⟩ = some (.pointer none) ∧ w'.cell? ⟨C + 1, 3, none⟩ = some (.int .u16 0)) (go_keep)
    (first
      | (go_at_call 7; refine (build_none ao c wn.drew).mono ?_; rintro e w2 ⟨bo, rfl, hb2⟩; have HB2 : Hid (Below wn.heap.size wn w2) := (Below.refl _ _).drew.trans hb2; have HV2 := hid (HV.out.below HB2.out); obtain ⟨n0', n1', n2', p0', p1', p2', p3'⟩ := HV2.out.cells; clear hb2)
      | (go_at_call 6; refine (keep_none' C d (text * 1048576) mid bo w2).mono ?_; rintro e w3 ⟨rfl, hk3⟩; have HK3 := hid hk3; have HV3 := hid (HV2.out.below hk3); obtain ⟨n0'', n1'', n2'', p0'', p1'', p2'', p3''⟩ := HV3.out.cells; clear hk3))
  clear n0 n1 n2 p0 p1 p2 p3 n0' n1' n2' p0' p1' p2' p3' n0'' n1'' n2'' p0'' p1'' p2'' p3''
  have B23 : Below wn.heap.size wn w3 := HB2.out.trans (HK3.out.mono HB2.out.size)
  have hC3 : IsC w3 C (.map none) (.pointer none) (.pointer none) 0 0 := (B23.block _ (block_lt HC.out)).trans HC.out
  have c0 : w3.cell? ⟨C, 0, none⟩ = some (.map none) := block_cell hC3 0
  have c6 : w3.cell? ⟨C, 6, none⟩ = some (.int .i64 0) := block_cell hC3 6
  have HC3 := hid hC3
  have HBW := hid (HBn.out.trans (B23.mono HBn.out.size))
  have q1 := eql24_nil
  clear hC3 B23 HV HV2 HV3 HB2 HK3 HC HBn
  go_wp2_with fail
  refine (Len_is C _ _ _ _ _ w3 HC3.out).mono ?_
  rintro e w4 ⟨rfl, rfl⟩
  go_wp2_with fail
  go_ret
  exact ⟨rfl, HBW.out⟩

set_option maxHeartbeats 2000000 in
theorem one_false (b off n c : Nat) (d text : Int) (mid : ByteArray) (ids : Nat → Int) (w : World) (h0 : 0 < n) (hn : n ≤ 1024) (d0 : -9223372036854775808 ≤ d) (d1 : d ≤ 9223372036854775807) (t0 : -1073741824 ≤ text) (t1 : text ≤ 1073741824) (hS : okS mid)
    (hI : Ids w b off n ids) (hU : ∀ i, okU (ids i)) (hg : w.cell? ⟨0, 0, none⟩ = some (.int .i64 90000000000)) :
    Calls Ybad.prog 3 #[.int .i64 d, .string mid, .slice (some ⟨b, off, none⟩) n c, .int .i64 text, .bool false] w fun e w' => e = .returned (.bool true) ∧ Below w.heap.size w w' := by
  obtain ⟨i0, hi, hz0, hz1, hz2⟩ := info_parts info3
  have hb : b < w.heap.size := World.block_lt_of_cell? _ _ (hI 0 h0).1
  have hg0 : 0 < w.heap.size := World.block_lt_of_cell? _ _ hg
  have hz : ((n : Int) == 0) = false := by simp; omega
  obtain ⟨tq0, tq1⟩ := tdiv_bd text n h0 1125899906842624 (by omega) (by omega)
  have HI := hid hI
  have HU := hid hU
  have HG := hid hg
  clear hI hU hg
  go_enter Ybad.func3, Ybad.ntmps3
  go_wp2_with fail
  obtain ⟨wa, hwa⟩ : ∃ wa, wa = (w.alloc (.cells (cacheArr (.map none) (.pointer none) (.pointer none) 0 0) 32)).alloc (.cells apArr 43) := ⟨_, rfl⟩
  rw [← hwa]
  have aB : Below w.heap.size w wa := by rw [hwa]; exact ((Below.refl _ _).alloc (Nat.le_refl _) _).alloc (by simp) _
  have aC : IsC wa w.heap.size (.map none) (.pointer none) (.pointer none) 0 0 := by rw [hwa]; rw [IsC, Below.heap_alloc _ _ _ (by simp)]; exact heap_alloc_new _ _
  have aT : wa.heap[w.heap.size + 1]? = some (.cells apArr 43 (0, 0)) := by rw [hwa]; exact alloc_at _ _ _ (by simp)
  clear hwa
  refine (add_zero d d0 d1 wa).mono ?_
  rintro e w1 ⟨rfl, b1⟩
  unfold timeOf
  go_wp2_with fail
  obtain ⟨wn, hwn⟩ : ∃ wn, wn = w1.alloc (.cells (nowArr d) 46) := ⟨_, rfl⟩
  rw [← hwn]
  have nB1 : Below w1.heap.size w1 wn := by rw [hwn]; exact (Below.refl _ _).alloc (Nat.le_refl _) _
  have aB1 : Below wa.heap.size wa wn := b1.trans (nB1.mono b1.size)
  have hnV : Vs wn w1.heap.size (w.heap.size + 1) d := ⟨by rw [hwn]; exact heap_alloc_new _ _, (aB1.block _ (block_lt aT)).trans aT⟩
  have hnC : IsC wn w.heap.size (.map none) (.pointer none) (.pointer none) 0 0 := (aB1.block _ (block_lt aC)).trans aC
  have hnB : Below w.heap.size w wn := aB.trans (aB1.mono aB.size)
  have HV := hid hnV
  have HC := hid hnC
  have HBn := hid hnB
  have hnI := hid (HI.out.below hnB hb)
  have hbn : b < wn.heap.size := Nat.lt_of_lt_of_le hb hnB.size
  have hgn := hid ((hnB.cell (by exact hg0)).trans HG.out)
  clear hwn nB1 aB1 aB aC aT hnC hnB b1
  obtain ⟨n0, n1, n2, p0, p1, p2, p3⟩ := hnV.cells
  clear hnV
  obtain ⟨C, hC⟩ : ∃ C, C = w.heap.size := ⟨_, rfl⟩
  obtain ⟨N, hN⟩ : ∃ N, N = w1.heap.size := ⟨_, rfl⟩
  rw [← hC] at HV HC p0 p1 p2 p3 ⊢
  rw [← hN] at HV n0 n1 n2 ⊢
  have HCe := hid hC
  have hC0 : 0 < C := by omega
  clear hC hN
  obtain ⟨s, hs⟩ : ∃ s, s = Int.tdiv text n + 256 := ⟨_, rfl⟩
  have hbd := tot_bd2 (sz := fun _ => s) (fun _ => by omega) (show n ≤ 2048 by omega)
  have HBD := hid hbd
  have HSs := hid hs
  clear hbd hs
  go_region_held3 (fun w' => w'.cell? ⟨N, 0, none⟩ = some (.int .u64 (d % 1000000000)) ∧ w'.cell? ⟨N, 1, none⟩ = some (.int .i64 (d / 1000000000)) ∧ w'.cell? ⟨N, 2, none⟩ = some (.pointer none) ∧ w'.cell? ⟨C + 1, 0, none⟩ = some (.int .u64 0) ∧ w'.cell? ⟨C + 1, 1, none⟩ = some (.int .u64 0) ∧ w'.cell? ⟨C + 1, 2, none⟩ = some (.pointer none) ∧ w'.cell? ⟨C + 1, 3, none⟩ = some (.int .u16 0)) (go_keep)
    (first
      | (go_at_call 7; refine (build_any' b off n c ids wn.drew h0 (by omega) hbn hnI.out).mono ?_; rintro e w2 ⟨R, rfl, hT2, hb2⟩; have HT2 := hid hT2; have HB2 : Hid (Below wn.heap.size wn w2) := (Below.refl _ _).drew.trans hb2; have HV2 := hid (HV.out.below HB2.out); obtain ⟨n0', n1', n2', p0', p1', p2', p3'⟩ := HV2.out.cells; clear hT2 hb2)
      | (go_at_call 6; refine (keep_raw' C R n d text mid ids (fun _ => s) w2 h0 hn d0 d1 (by omega) (by omega) hS ((HB2.out.block _ (block_lt HC.out)).trans HC.out) HT2.out HU.out (fun _ _ => HSs.out) HBD.out ((HB2.out.cell (World.block_lt_of_cell? _ _ hgn.out)).trans hgn.out) hC0).mono ?_; rintro e w3 ⟨rfl, hk3⟩; have HK3 := hid hk3; have HV3 := hid (HV2.out.fr hk3.fr); obtain ⟨n0'', n1'', n2'', p0'', p1'', p2'', p3''⟩ := HV3.out.cells; clear hk3))
  clear n0 n1 n2 p0 p1 p2 p3 n0' n1' n2' p0' p1' p2' p3' n0'' n1'' n2''
  have B3 : Below w.heap.size w w3 := HBn.out.trans ((HB2.out.mono HBn.out.size).trans (by have := HK3.out.fr.below; rw [HCe.out] at this; exact this))
  have HB3 := hid B3
  clear B3 HV HV2 HT2 HB2 HC HBn hnI hbn hgn
  go_wp2_with (at_make; refine wpList_make_full _ rfl _ _ 54 rfl w3.heap.size 3 i0 _ 1 Ybad.underlying54 hi hz0 hz1 _ _ _ _ n rfl rfl rfl rfl (by rw [hz2]; omega) (by unfold maxLen; omega) (by simp) ?_)
  intro w4 hown hgrow
  have hB4 : Below w3.heap.size w3 w4 := (Below.refl _ _).grown hgrow (Nat.le_refl _) (fun k hk => by cases hk)
  have hSz := Szs.start (fun _ => s) hown
  rw [← HSs.out]
  have hs0 : -1125899906842880 ≤ s ∧ s ≤ 1125899906842880 := by have := HSs.out; omega
  clear hown hgrow hi hz0 hz1 hz2
  go_wp2_with fail
  go_loopw [80] (fun i wr => ∃ k : Nat, k ≤ n ∧ i = .int .i64 k ∧ Szs wr w3.heap.size n k (fun _ => s) ∧ Below w3.heap.size w3 wr) (fun i _ => n - (intOf i).toNat)
  case atStart => exact ⟨0, Nat.zero_le _, rfl, hSz, hB4⟩
  case round =>
    clear hSz hB4
    obtain ⟨k, hk, rfl, hSz, hB4⟩ := hrel
    by_cases hlt : k < n
    · obtain ⟨⟨v, co⟩, cf⟩ := hSz.old hlt
      have HS2 := hid (hSz.step hlt)
      have HB4 := hid (hB4.setCell (p := ⟨w3.heap.size, k, none⟩) (Nat.le_refl _) (.int .i64 s))
      clear hSz hB4
      go_wp2_with fail
      go_roundw
      case rel => exact ⟨k + 1, by omega, by go_num, HS2.out, HB4.out⟩
      case measure => simp [intOf]; omega
    · obtain rfl : k = n := by omega
      obtain ⟨O, I, el, kr, lo, hCO, hCI, hlo, hL, hM, hF, hle, hgt⟩ := HK3.out
      have hL4 := hid (hL.below hB4)
      have hM4 := hid (hM.below hB4)
      have hI4 := hid ((HI.out.below HB3.out hb).below hB4 (Nat.lt_of_lt_of_le hb HB3.out.size))
      have hV4 := HV3.out.below hB4
      obtain ⟨_, _, _, p0, p1, p2, p3⟩ := hV4.cells
      have HSZ := hid hSz
      have HBW := hid (HB3.out.trans (hB4.mono HB3.out.size))
      obtain ⟨hp0, hp1⟩ := HBD.out 0 k (Nat.zero_le _) (Nat.le_refl _)
      rw [tot_const, tot_const, show (((0 : Nat) : Int)) * s = 0 by simp, Int.sub_zero] at hp0 hp1
      have HLE := hid hle
      have HGT := hid hgt
      have HCK := hid (fun (ev : Nat) (e : lo = ev) => e ▸ check_any C O I b off k c w3.heap.size lo el kr ids (fun _ => s) d mid wr h0 (by omega) hlo hL4.out hM4.out hI4.out (fun j hj => HSZ.out.cell hj) HBD.out hS HU.out)
      clear hL hM hF hle hgt hV4 hSz hB4 HK3 HV3 hL4 hM4 hI4 HSZ HB3 p0'' p1'' p2'' p3''
      by_cases hs1 : 0 < s
      · by_cases hs2 : 4194304 < (k : Int) * s
        · obtain ⟨k0, k1, k2⟩ := evict_some hlo HLE.out HGT.out hs1 hs2
          rw [← Int.tdiv_eq_ediv_of_nonneg (show (0 : Int) ≤ 4194304 by omega)] at k0 k1 k2
          have kn : ¬ (k : Int) < Int.tdiv 4194304 s := by omega
          go_wp2_with fail
          refine (HCK.out lo rfl).mono ?_
          rintro e w5 ⟨rfl, hb5⟩
          go_wp2_with fail
          go_ret
          exact ⟨rfl, HBW.out.trans (hb5.mono HBW.out.size)⟩
        · have e0 := evict_none HGT.out (fun h => hs2 h.2)
          go_wp2_with fail
          refine (HCK.out 0 e0).mono ?_
          rintro e w5 ⟨rfl, hb5⟩
          go_wp2_with fail
          go_ret
          exact ⟨rfl, HBW.out.trans (hb5.mono HBW.out.size)⟩
      · have e0 := evict_none HGT.out (fun h => hs1 h.1)
        have hs3 : s ≤ 0 := by omega
        go_wp2_with fail
        refine (HCK.out 0 e0).mono ?_
        rintro e w5 ⟨rfl, hb5⟩
        go_wp2_with fail
        go_ret
        exact ⟨rfl, HBW.out.trans (hb5.mono HBW.out.size)⟩

set_option maxHeartbeats 2000000 in
theorem one_true (b off n c : Nat) (d text : Int) (mid : ByteArray) (ids : Nat → Int) (w : World) (h0 : 0 < n) (hn : n ≤ 1024) (d0 : -9223372036854775808 ≤ d) (d1 : d ≤ 9223372036854775807) (t0 : -1073741824 ≤ text) (t1 : text ≤ 1073741824) (hS : okS mid)
    (hI : Ids w b off n ids) (hU : ∀ i, okU (ids i)) (hg : w.cell? ⟨0, 0, none⟩ = some (.int .i64 90000000000)) :
    Calls Ybad.prog 3 #[.int .i64 d, .string mid, .slice (some ⟨b, off, none⟩) n c, .int .i64 text, .bool true] w fun e w' => e = .returned (.bool true) ∧ Below w.heap.size w w' := by
  obtain ⟨i0, hi, hz0, hz1, hz2⟩ := info_parts info3
  have hb : b < w.heap.size := World.block_lt_of_cell? _ _ (hI 0 h0).1
  have hg0 : 0 < w.heap.size := World.block_lt_of_cell? _ _ hg
  have hz : ((n : Int) == 0) = false := by simp; omega
  obtain ⟨tq0, tq1⟩ := tdiv_bd (text * 1048576) n h0 1125899906842624 (by omega) (by omega)
  have HI := hid hI
  have HU := hid hU
  have HG := hid hg
  clear hI hU hg
  go_enter Ybad.func3, Ybad.ntmps3
  go_wp2_with fail
  obtain ⟨wa, hwa⟩ : ∃ wa, wa = (w.alloc (.cells (cacheArr (.map none) (.pointer none) (.pointer none) 0 0) 32)).alloc (.cells apArr 43) := ⟨_, rfl⟩
  rw [← hwa]
  have aB : Below w.heap.size w wa := by rw [hwa]; exact ((Below.refl _ _).alloc (Nat.le_refl _) _).alloc (by simp) _
  have aC : IsC wa w.heap.size (.map none) (.pointer none) (.pointer none) 0 0 := by rw [hwa]; rw [IsC, Below.heap_alloc _ _ _ (by simp)]; exact heap_alloc_new _ _
  have aT : wa.heap[w.heap.size + 1]? = some (.cells apArr 43 (0, 0)) := by rw [hwa]; exact alloc_at _ _ _ (by simp)
  clear hwa
  refine (add_zero d d0 d1 wa).mono ?_
  rintro e w1 ⟨rfl, b1⟩
  unfold timeOf
  go_wp2_with fail
  obtain ⟨wn, hwn⟩ : ∃ wn, wn = w1.alloc (.cells (nowArr d) 46) := ⟨_, rfl⟩
  rw [← hwn]
  have nB1 : Below w1.heap.size w1 wn := by rw [hwn]; exact (Below.refl _ _).alloc (Nat.le_refl _) _
  have aB1 : Below wa.heap.size wa wn := b1.trans (nB1.mono b1.size)
  have hnV : Vs wn w1.heap.size (w.heap.size + 1) d := ⟨by rw [hwn]; exact heap_alloc_new _ _, (aB1.block _ (block_lt aT)).trans aT⟩
  have hnC : IsC wn w.heap.size (.map none) (.pointer none) (.pointer none) 0 0 := (aB1.block _ (block_lt aC)).trans aC
  have hnB : Below w.heap.size w wn := aB.trans (aB1.mono aB.size)
  have HV := hid hnV
  have HC := hid hnC
  have HBn := hid hnB
  have hnI := hid (HI.out.below hnB hb)
  have hbn : b < wn.heap.size := Nat.lt_of_lt_of_le hb hnB.size
  have hgn := hid ((hnB.cell (by exact hg0)).trans HG.out)
  clear hwn nB1 aB1 aB aC aT hnC hnB b1
  obtain ⟨n0, n1, n2, p0, p1, p2, p3⟩ := hnV.cells
  clear hnV
  obtain ⟨C, hC⟩ : ∃ C, C = w.heap.size := ⟨_, rfl⟩
  obtain ⟨N, hN⟩ : ∃ N, N = w1.heap.size := ⟨_, rfl⟩
  rw [← hC] at HV HC p0 p1 p2 p3 ⊢
  rw [← hN] at HV n0 n1 n2 ⊢
  have HCe := hid hC
  have hC0 : 0 < C := by omega
  clear hC hN
  obtain ⟨s, hs⟩ : ∃ s, s = Int.tdiv (text * 1048576) n + 256 := ⟨_, rfl⟩
  have hbd := tot_bd2 (sz := fun _ => s) (fun _ => by omega) (show n ≤ 2048 by omega)
  have HBD := hid hbd
  have HSs := hid hs
  clear hbd hs
  go_region_held3 (fun w' => w'.cell? ⟨N, 0, none⟩ = some (.int .u64 (d % 1000000000)) ∧ w'.cell? ⟨N, 1, none⟩ = some (.int .i64 (d / 1000000000)) ∧ w'.cell? ⟨N, 2, none⟩ = some (.pointer none) ∧ w'.cell? ⟨C + 1, 0, none⟩ = some (.int .u64 0) ∧ w'.cell? ⟨C + 1, 1, none⟩ = some (.int .u64 0) ∧ w'.cell? ⟨C + 1, 2, none⟩ = some (.pointer none) ∧ w'.cell? ⟨C + 1, 3, none⟩ = some (.int .u16 0)) (go_keep)
    (first
      | (go_at_call 7; refine (build_any' b off n c ids wn.drew h0 (by omega) hbn hnI.out).mono ?_; rintro e w2 ⟨R, rfl, hT2, hb2⟩; have HT2 := hid hT2; have HB2 : Hid (Below wn.heap.size wn w2) := (Below.refl _ _).drew.trans hb2; have HV2 := hid (HV.out.below HB2.out); obtain ⟨n0', n1', n2', p0', p1', p2', p3'⟩ := HV2.out.cells; clear hT2 hb2)
      | (go_at_call 6; refine (keep_raw' C R n d (text * 1048576) mid ids (fun _ => s) w2 h0 hn d0 d1 (by omega) (by omega) hS ((HB2.out.block _ (block_lt HC.out)).trans HC.out) HT2.out HU.out (fun _ _ => HSs.out) HBD.out ((HB2.out.cell (World.block_lt_of_cell? _ _ hgn.out)).trans hgn.out) hC0).mono ?_; rintro e w3 ⟨rfl, hk3⟩; have HK3 := hid hk3; have HV3 := hid (HV2.out.fr hk3.fr); obtain ⟨n0'', n1'', n2'', p0'', p1'', p2'', p3''⟩ := HV3.out.cells; clear hk3))
  clear n0 n1 n2 p0 p1 p2 p3 n0' n1' n2' p0' p1' p2' p3' n0'' n1'' n2''
  have B3 : Below w.heap.size w w3 := HBn.out.trans ((HB2.out.mono HBn.out.size).trans (by have := HK3.out.fr.below; rw [HCe.out] at this; exact this))
  have HB3 := hid B3
  clear B3 HV HV2 HT2 HB2 HC HBn hnI hbn hgn
  go_wp2_with (at_make; refine wpList_make_full _ rfl _ _ 54 rfl w3.heap.size 3 i0 _ 1 Ybad.underlying54 hi hz0 hz1 _ _ _ _ n rfl rfl rfl rfl (by rw [hz2]; omega) (by unfold maxLen; omega) (by simp) ?_)
  intro w4 hown hgrow
  have hB4 : Below w3.heap.size w3 w4 := (Below.refl _ _).grown hgrow (Nat.le_refl _) (fun k hk => by cases hk)
  have hSz := Szs.start (fun _ => s) hown
  rw [← HSs.out]
  have hs0 : -1125899906842880 ≤ s ∧ s ≤ 1125899906842880 := by have := HSs.out; omega
  clear hown hgrow hi hz0 hz1 hz2
  go_wp2_with fail
  go_loopw [80] (fun i wr => ∃ k : Nat, k ≤ n ∧ i = .int .i64 k ∧ Szs wr w3.heap.size n k (fun _ => s) ∧ Below w3.heap.size w3 wr) (fun i _ => n - (intOf i).toNat)
  case atStart => exact ⟨0, Nat.zero_le _, rfl, hSz, hB4⟩
  case round =>
    clear hSz hB4
    obtain ⟨k, hk, rfl, hSz, hB4⟩ := hrel
    by_cases hlt : k < n
    · obtain ⟨⟨v, co⟩, cf⟩ := hSz.old hlt
      have HS2 := hid (hSz.step hlt)
      have HB4 := hid (hB4.setCell (p := ⟨w3.heap.size, k, none⟩) (Nat.le_refl _) (.int .i64 s))
      clear hSz hB4
      go_wp2_with fail
      go_roundw
      case rel => exact ⟨k + 1, by omega, by go_num, HS2.out, HB4.out⟩
      case measure => simp [intOf]; omega
    · obtain rfl : k = n := by omega
      obtain ⟨O, I, el, kr, lo, hCO, hCI, hlo, hL, hM, hF, hle, hgt⟩ := HK3.out
      have hL4 := hid (hL.below hB4)
      have hM4 := hid (hM.below hB4)
      have hI4 := hid ((HI.out.below HB3.out hb).below hB4 (Nat.lt_of_lt_of_le hb HB3.out.size))
      have hV4 := HV3.out.below hB4
      obtain ⟨_, _, _, p0, p1, p2, p3⟩ := hV4.cells
      have HSZ := hid hSz
      have HBW := hid (HB3.out.trans (hB4.mono HB3.out.size))
      obtain ⟨hp0, hp1⟩ := HBD.out 0 k (Nat.zero_le _) (Nat.le_refl _)
      rw [tot_const, tot_const, show (((0 : Nat) : Int)) * s = 0 by simp, Int.sub_zero] at hp0 hp1
      have HLE := hid hle
      have HGT := hid hgt
      have HCK := hid (fun (ev : Nat) (e : lo = ev) => e ▸ check_any C O I b off k c w3.heap.size lo el kr ids (fun _ => s) d mid wr h0 (by omega) hlo hL4.out hM4.out hI4.out (fun j hj => HSZ.out.cell hj) HBD.out hS HU.out)
      clear hL hM hF hle hgt hV4 hSz hB4 HK3 HV3 hL4 hM4 hI4 HSZ HB3 p0'' p1'' p2'' p3''
      by_cases hs1 : 0 < s
      · by_cases hs2 : 4194304 < (k : Int) * s
        · obtain ⟨k0, k1, k2⟩ := evict_some hlo HLE.out HGT.out hs1 hs2
          rw [← Int.tdiv_eq_ediv_of_nonneg (show (0 : Int) ≤ 4194304 by omega)] at k0 k1 k2
          have kn : ¬ (k : Int) < Int.tdiv 4194304 s := by omega
          go_wp2_with fail
          refine (HCK.out lo rfl).mono ?_
          rintro e w5 ⟨rfl, hb5⟩
          go_wp2_with fail
          go_ret
          exact ⟨rfl, HBW.out.trans (hb5.mono HBW.out.size)⟩
        · have e0 := evict_none HGT.out (fun h => hs2 h.2)
          go_wp2_with fail
          refine (HCK.out 0 e0).mono ?_
          rintro e w5 ⟨rfl, hb5⟩
          go_wp2_with fail
          go_ret
          exact ⟨rfl, HBW.out.trans (hb5.mono HBW.out.size)⟩
      · have e0 := evict_none HGT.out (fun h => hs1 h.1)
        have hs3 : s ≤ 0 := by omega
        go_wp2_with fail
        refine (HCK.out 0 e0).mono ?_
        rintro e w5 ⟨rfl, hb5⟩
        go_wp2_with fail
        go_ret
        exact ⟨rfl, HBW.out.trans (hb5.mono HBW.out.size)⟩

end Go.Proofs.YbulkcamsDoor.KP
