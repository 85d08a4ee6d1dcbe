import Derived.Test.YbulkcamsDoorKPLetGo
import Derived.Test.YbulkcamsDoorKPWalks
import Derived.Deep.RegionHeld3
namespace Go.Proofs.YbulkcamsDoor.KP
open Go.RowKit Ext
open MapFn (MapIs upd upd_same upd_other)
set_option maxRecDepth 10000
set_option linter.unusedSimpArgs false
set_option linter.unusedVariables false

/-- The list as it stands while keep pushes: not yet begun, or the first hi items. -/
def Lst (w : World) (C : Nat) (rep : Value) (el kr : Nat → Nat) (ka : Nat → Array Value) (hi : Nat) (size : Int) : Prop :=
  (hi = 0 ∧ IsC w C rep (.pointer none) (.pointer none) 0 size) ∨ (0 < hi ∧ LS w C rep el kr ka 0 hi size)

abbrev zeroAP : Value := .agg #[.int .u64 0, .int .u64 0, .pointer none, .int .u16 0]
def tot (sz : Nat → Int) : Nat → Int
  | 0 => 0
  | n + 1 => tot sz n + sz n

theorem eql_mapnil (t k e : TypeId) (ht : Ybad.prog.underlying t = some (.map k e)) (o : Option Nat) (w : World) : (binOp .eql t (.map o) (.map none)).run Ybad.prog w = .ok (.bool o.isNone) w := by
  have h : ∀ d : Nat, (Op.equalIn (d + 1) t (.map o) (.map none)).run Ybad.prog w = .ok o.isNone w := fun d => by
    cases o <;> simp [Op.equalIn, run_underlying ht]
  simp only [binOp]
  simp [Op.equal, Op.maxDepth, h 9999]
theorem eql24_nil (w : World) : (binOp .eql 24 (.map none) (.map none)).run Ybad.prog w = .ok (.bool true) w := eql_mapnil 24 9 60 und24 none w
theorem eql24_some (b : Nat) (w : World) : (binOp .eql 24 (.map (some b)) (.map none)).run Ybad.prog w = .ok (.bool false) w := eql_mapnil 24 9 60 und24 (some b) w
theorem eql60_nil (w : World) : (binOp .eql 60 (.map none) (.map none)).run Ybad.prog w = .ok (.bool true) w := eql_mapnil 60 62 25 und60 none w
theorem eql60_some (b : Nat) (w : World) : (binOp .eql 60 (.map (some b)) (.map none)).run Ybad.prog w = .ok (.bool false) w := eql_mapnil 60 62 25 und60 (some b) w

theorem make60 (x : Int) (w : World) : (Instr.makeMap 60 (some (.int .i64 x))).run Ybad.prog w = .ok (.map (some w.heap.size)) (w.alloc (.map #[] 0)) := by
  simp [Instr.makeMap, run_underlying und60, asInt, asIntOf]

set_option maxHeartbeats 1000000 in
theorem keep_none (C : Nat) (d text : Int) (mid : ByteArray) (ao : Option Addr) (w : World) :
    Calls Ybad.prog 6 #[ptrV C 0, timeOf d, .string mid, zeroAP, .slice ao 0 0, .int .i64 text] w fun e w' => e = .returned (.tuple #[]) ∧ Below w.heap.size w w' := by
  unfold timeOf
  go_enter Ybad.func6, Ybad.ntmps6
  go_wp2_with fail
  refine bodyPost_ret (results_none rfl _ _ _) rfl ⟨rfl, ?_⟩
  exact ((Below.refl _ _).alloc (Nat.le_refl _) _).alloc (by simp) _


section
variable {w : World} {C O I : Nat} {rep : Value} {el kr : Nat → Nat} {ka : Nat → Array Value} {hi : Nat} {size : Int} {mid : ByteArray} {ids : Nat → Int}

theorem Lst.push {K : Nat} (h : Lst w C rep el kr ka hi size) (hN : hi ≤ 100000) (hK : w.heap[K]? = some (.cells (ka hi) 72 (0, 0))) :
    Calls Ybad.prog 14 #[ptrV C 1, .iface 70 (ptrV K 0)] w fun e w' => ∃ E, w.heap.size ≤ E ∧ e = .returned (ptrV E 0) ∧ LS w' C rep (fun i => if i = hi then E else el i) (fun i => if i = hi then K else kr i) ka 0 (hi + 1) size ∧ But (fun k => k = C ∨ ∃ i, 0 ≤ i ∧ i < hi ∧ k = el i) w w' := by
  rcases h with ⟨rfl, h⟩ | ⟨h0, h⟩
  · exact LS.push0 h hK
  · exact h.push h0 hN hK

theorem Lst.is_c (h : Lst w C rep el kr ka hi size) : ∃ nx pv l, IsC w C rep nx pv l size := by
  rcases h with ⟨rfl, h⟩ | ⟨h0, h⟩
  · exact ⟨_, _, _, h⟩
  · obtain ⟨nx, pv, hc, _⟩ := h.c; exact ⟨_, _, _, hc⟩
theorem Lst.lt_c (h : Lst w C rep el kr ka hi size) : C < w.heap.size := by obtain ⟨_, _, _, hc⟩ := h.is_c; exact block_lt hc

theorem Lst.below {w' : World} (h : Lst w C rep el kr ka hi size) (hb : Below w.heap.size w w') : Lst w' C rep el kr ka hi size := by
  rcases h with ⟨rfl, h⟩ | ⟨h0, h⟩
  · exact .inl ⟨rfl, (hb.block _ (block_lt h)).trans h⟩
  · exact .inr ⟨h0, h.below hb⟩
theorem Lst.drew (h : Lst w C rep el kr ka hi size) : Lst w.drew C rep el kr ka hi size := by
  rcases h with ⟨rfl, h⟩ | ⟨h0, h⟩
  · exact .inl ⟨rfl, h⟩
  · exact .inr ⟨h0, h.drew⟩

theorem Lst.p_cells (h : Lst w C rep el kr ka hi size) : ∀ k, (k = C ∨ ∃ i, 0 ≤ i ∧ i < hi ∧ k = el i) → C ≤ k ∧ ∃ cs t, w.heap[k]? = some (.cells cs t (0, 0)) ∧ (t = 32 ∨ t = 28) := by
  rintro k (rfl | ⟨i, a, b, rfl⟩)
  · obtain ⟨_, _, _, hc⟩ := h.is_c
    exact ⟨Nat.le_refl _, _, _, hc, .inl rfl⟩
  · rcases h with ⟨rfl, h⟩ | ⟨h0, h⟩
    · omega
    · exact ⟨Nat.le_of_lt (h.gt i a b), _, _, h.e i a b, .inr rfl⟩

theorem map_ne {w : World} {O I n m : Nat} {mid : ByteArray} {J : Nat} {f : Int → Option Value} (h1 : MapS w O (one mid J) n) (h2 : MapU w I f m) : O ≠ I := by
  rintro rfl
  obtain ⟨es, cl, e1, e2, e3, e4, e5⟩ := h1
  obtain ⟨es', cl', g1, g2, g3, g4, g5⟩ := h2
  rw [e1] at g1; cases g1
  obtain ⟨x, hx, hk, _⟩ := e5 mid (.map (some J)) (by simp [one])
  obtain ⟨a, _, hk2, _⟩ := g4 x hx
  rw [hk] at hk2; cases hk2

/-- A reply is pushed and put into the index; then the size is set. -/
theorem push_step {w1 w2 : World} {E K : Nat} {z : Int} (h : Lst w C (.map (some O)) el kr ka hi size) (hO : MapS w O (one mid I) 1) (hI : MapU w I (idx ids el 0 hi) (cntTo ids hi)) (hCO : C < O) (hCI : C < I)
    (hl : LS w1 C (.map (some O)) (fun i => if i = hi then E else el i) (fun i => if i = hi then K else kr i) ka 0 (hi + 1) size) (hb : But (fun k => k = C ∨ ∃ i, 0 ≤ i ∧ i < hi ∧ k = el i) w w1)
    (hm : MapU w1 I (upd (idx ids el 0 hi) (ids hi) (some (ptrV E 0))) (if (idx ids el 0 hi (ids hi)).isSome then cntTo ids hi else cntTo ids hi + 1) → True)
    (f2 : But (fun k => k = I) w1 w2) (m2 : MapU w2 I (upd (idx ids el 0 hi) (ids hi) (some (ptrV E 0))) (if (idx ids el 0 hi (ids hi)).isSome then cntTo ids hi else cntTo ids hi + 1)) (hOI : O ≠ I) :
    Lst (w2.setCell ⟨C, 6, none⟩ (.int .i64 z)) C (.map (some O)) (fun i => if i = hi then E else el i) (fun i => if i = hi then K else kr i) ka (hi + 1) z ∧ MapS (w2.setCell ⟨C, 6, none⟩ (.int .i64 z)) O (one mid I) 1 ∧
      MapU (w2.setCell ⟨C, 6, none⟩ (.int .i64 z)) I (idx ids (fun i => if i = hi then E else el i) 0 (hi + 1)) (cntTo ids (hi + 1)) ∧ Fr C w (w2.setCell ⟨C, 6, none⟩ (.int .i64 z)) := by
  have hc := h.p_cells
  have hlt := h.lt_c
  have kept : ∀ {α : Type} [DecidableEq α] {enc : α → Value} {ok : α → Prop} {b n : Nat} {f : α → Option Value}, MapIs enc ok w b f n → MapIs enc ok w1 b f n := fun {α} _ {enc ok b n f} hm => by
    obtain ⟨es, cl, e⟩ := isMap hm
    refine hm.kept (hb.block b (block_lt e) (fun hp => ?_))
    obtain ⟨_, cs, t, e2, _⟩ := hc b hp
    rw [e] at e2; cases e2
  have hO1 := kept hO
  have hI1 := kept hI
  have hq : ∀ k, k = I → ∃ es c, w1.heap[k]? = some (.map es c) := by rintro k rfl; exact isMap hI1
  have hO2 : MapS w2 O (one mid I) 1 := hO1.kept (f2.block O (by obtain ⟨_, _, e⟩ := isMap hO1; exact block_lt e) hOI)
  have l2 := hl.maps f2 hq
  refine ⟨.inr ⟨by omega, l2.resize z⟩, hO2.kept (set_other (by omega) rfl), ?_, ?_⟩
  · rw [← cnt_push ids el hi]
    exact (m2.congr (idx_push ids el hi E)).kept (set_other (by omega) rfl)
  · refine (Fr.of_but hb (by omega) (fun k hk => ?_)).trans ((Fr.of_but f2 (by have := hb.size; omega) (fun k hk => ?_)).trans (Fr.of_but (p := fun k => k = C) ((But.refl (fun k => k = C) w2).set (b := C) rfl _) (by have := l2.lt_c; omega) ?_))
    · obtain ⟨a, cs, t, e, ht⟩ := hc k hk
      exact ⟨a, fun cs t fz g => by rw [e] at g; cases g; exact ht⟩
    · obtain ⟨es, c, e⟩ := hq k hk
      exact ⟨by omega, fun cs t fz g => by rw [e] at g; cases g⟩
    · rintro k rfl
      obtain ⟨_, _, h0, _⟩ := l2.c
      exact ⟨Nat.le_refl _, fun cs t fz e => .inl (by rw [h0] at e; cases e; rfl)⟩
end

theorem push_call {w : World} {C O I : Nat} {el kr : Nat → Nat} {ka : Nat → Array Value} {hi : Nat} {size : Int} {mid : ByteArray} {ids : Nat → Int} {K A : Nat} {cs : Array Value}
    (h : Lst w C (.map (some O)) el kr ka hi size) (hO : MapS w O (one mid I) 1) (hI : MapU w I (idx ids el 0 hi) (cntTo ids hi)) (hCO : C < O) (hCI : C < I) (hN : hi ≤ 100000) (hU : okU (ids hi)) (hK : w.heap[K]? = some (.cells (ka hi) 72 (0, 0))) (hA : w.heap[A]? = some (.cells cs 67 (0, 0))) {x : Value} (hx : cs[1]? = some x) :
    Calls Ybad.prog 14 #[ptrV C 1, .iface 70 (ptrV K 0)] w fun e w3 => ∃ E w4, e = .returned (ptrV E 0) ∧ (Instr.mapUpdate 60 (.map (some I)) (.int .u32 (ids hi)) (ptrV E 0)).run Ybad.prog w3 = .ok () w4 ∧ w3.cell? ⟨A, 1, none⟩ = some x ∧ w4.cell? ⟨A, 1, none⟩ = some x ∧
      w4.cell? ⟨C, 6, none⟩ = some (.int .i64 size) ∧ (∀ i, w4.frozen? ⟨C, i, none⟩ = false) ∧
      Hid (∀ z, (∃ el kr, Lst (w4.setCell ⟨C, 6, none⟩ (.int .i64 z)) C (.map (some O)) el kr ka (hi + 1) z ∧ MapU (w4.setCell ⟨C, 6, none⟩ (.int .i64 z)) I (idx ids el 0 (hi + 1)) (cntTo ids (hi + 1))) ∧ MapS (w4.setCell ⟨C, 6, none⟩ (.int .i64 z)) O (one mid I) 1 ∧ Fr C w (w4.setCell ⟨C, 6, none⟩ (.int .i64 z))) := by
  refine (h.push hN hK).mono ?_
  rintro e w3 ⟨E, hE, rfl, l3, f3⟩
  have hc := h.p_cells
  have hI3 : MapU w3 I (idx ids el 0 hi) (cntTo ids hi) := by
    obtain ⟨es, cl, e⟩ := isMap hI
    refine hI.kept (f3.block I (block_lt e) (fun hp => ?_))
    obtain ⟨_, cs, t, e2, _⟩ := hc I hp
    rw [e] at e2; cases e2
  have hA3 : w3.heap[A]? = some (.cells cs 67 (0, 0)) := f3.kept hA (fun hp => by
    obtain ⟨_, cs, t, e2, ht⟩ := hc A hp
    rw [hA] at e2; cases e2
    rcases ht with ht | ht <;> cases ht)
  obtain ⟨w4, r4, m4, f4⟩ := putU hI3 hU (ptrV E 0)
  have hq : ∀ k, k = I → ∃ es c, w3.heap[k]? = some (.map es c) := by rintro k rfl; exact isMap hI3
  have l4 := l3.maps f4 hq
  obtain ⟨nx, pv, c4, _⟩ := l4.c
  refine ⟨E, w4, rfl, r4 0, by rw [block_cell hA3]; exact hx, by rw [block_cell (f4.cells hq hA3)]; exact hx, block_cell c4 6, block_frozen c4, hid fun z => ?_⟩
  obtain ⟨a, b, c, d⟩ := push_step (z := z) h hO hI hCO hCI l3 f3 (fun _ => trivial) f4 m4 (map_ne hO hI)
  exact ⟨⟨_, _, a, c⟩, b, d⟩

/-- The cell that tells the list's length. -/
def lenAt (w : World) (C : Nat) : Nat := match w.cell? ⟨C, 5, none⟩ with | some (.int _ x) => x.toNat | _ => 0

theorem LS.lenAt {w : World} {C : Nat} {rep : Value} {el kr : Nat → Nat} {ka : Nat → Array Value} {lo hi : Nat} {size : Int} (h : LS w C rep el kr ka lo hi size) : lenAt w C = hi - lo := by
  obtain ⟨nx, pv, hc, _⟩ := h.c
  have : w.cell? ⟨C, 5, none⟩ = some (.int .i64 ((hi : Int) - lo)) := block_cell hc 5
  unfold KP.lenAt
  rw [this]
  show ((hi : Int) - lo).toNat = hi - lo
  omega

theorem cnt_le (ids : Nat → Int) : ∀ n, cntTo ids n ≤ n
  | 0 => Nat.le_refl _
  | n + 1 => by rw [cntTo]; have := cnt_le ids n; split <;> omega
theorem cnt_pos (ids : Nat → Int) {n : Nat} (h : 0 < n) : 0 < cntTo ids n :=
  Nat.lt_of_lt_of_le (show 0 < cntTo ids 1 by simp [cntTo, firstB, lastOcc]) (cnt_mono ids h)

theorem Txs.kept {w w' : World} {R n k : Nat} {ids : Nat → Int} (h : Txs w R n k ids) {C : Nat} (hf : Fr C w w') : Txs w' R n k ids := by
  obtain ⟨cur, hb, r⟩ := h
  exact ⟨cur, hf.cells _ _ _ _ hb (by decide) (by decide), r⟩

theorem tdiv_bd (a : Int) (n : Nat) (h0 : 0 < n) (B : Int) (h1 : -B ≤ a) (h2 : a ≤ B) : -B ≤ a.tdiv n ∧ a.tdiv n ≤ B := by
  by_cases h : 0 ≤ a
  · rw [Int.tdiv_eq_ediv_of_nonneg h]
    have := Int.ediv_le_self (n : Int) h
    have := Int.ediv_nonneg h (show (0 : Int) ≤ n by omega)
    omega
  · have e : a.tdiv n = -((-a) / n) := by rw [show a = -(-a) by omega, Int.neg_tdiv, Int.tdiv_eq_ediv_of_nonneg (by omega)]; simp
    rw [e]
    have := Int.ediv_le_self (n : Int) (show 0 ≤ -a by omega)
    have := Int.ediv_nonneg (show 0 ≤ -a by omega) (show (0 : Int) ≤ n by omega)
    omega

/-- What keep leaves: the items from lo up to hi, lo being the first at which the rest fits. -/
def KeepPost (w w' : World) (C : Nat) (mid : ByteArray) (ids sz : Nat → Int) (d : Int) (hi : Nat) : Prop := ∃ O I el kr lo, C < O ∧ C < I ∧ lo ≤ hi ∧
  LS w' C (.map (some O)) el kr (fun i => krArr mid (ids i) d (sz i)) lo hi (tot sz hi - tot sz lo) ∧ MapSt w' O I mid (idx ids el lo hi) (cntTo ids hi - cntTo ids lo) ∧ Fr C w w' ∧
  tot sz hi - tot sz lo ≤ 4194304 ∧ ∀ l, l < lo → 4194304 < tot sz hi - tot sz l

abbrev nowArr (d : Int) : Array Value := #[.int .u64 (d % 1000000000), .int .i64 (d / 1000000000), .pointer none]
abbrev apArr : Array Value := #[.int .u64 0, .int .u64 0, .pointer none, .int .u16 0]

/-- What a round of keep reads. -/
structure Rd (w : World) (A N : Nat) (d : Int) (mid : ByteArray) (id : Int) : Prop where
  a : w.heap[A]? = some (.cells #[.int .i64 0, .int .u32 id, .bool false, .slice none 0 0, .pointer none, .slice none 0 0] 67 (0, 0))
  b : w.heap[A + 1]? = some (.cells #[.string mid, .int .u32 id] 69 (0, 0))
  n : w.heap[N]? = some (.cells (nowArr d) 46 (0, 0))
  t : w.heap[N + 1]? = some (.cells apArr 43 (0, 0))
  g : w.cell? ⟨0, 0, none⟩ = some (.int .i64 90000000000)

theorem Rd.kept {w w' : World} {A N : Nat} {d : Int} {mid : ByteArray} {id : Int} (h : Rd w A N d mid id) (hb : Below w.heap.size w w') : Rd w' A N d mid id :=
  ⟨(hb.block _ (block_lt h.a)).trans h.a, (hb.block _ (block_lt h.b)).trans h.b, (hb.block _ (block_lt h.n)).trans h.n, (hb.block _ (block_lt h.t)).trans h.t, (hb.cell (World.block_lt_of_cell? _ _ h.g)).trans h.g⟩

theorem Rd.cells {w' : World} {A N : Nat} {d : Int} {mid : ByteArray} {id : Int} (h : Rd w' A N d mid id) :
    w'.cell? ⟨A, 0, none⟩ = some (.int .i64 0) ∧ w'.cell? ⟨A, 1, none⟩ = some (.int .u32 id) ∧ w'.cell? ⟨A, 2, none⟩ = some (.bool false) ∧ w'.cell? ⟨A, 3, none⟩ = some (.slice none 0 0) ∧ w'.cell? ⟨A, 4, none⟩ = some (.pointer none) ∧ w'.cell? ⟨A, 5, none⟩ = some (.slice none 0 0) ∧
          w'.cell? ⟨A + 1, 0, none⟩ = some (.string mid) ∧ w'.cell? ⟨A + 1, 1, none⟩ = some (.int .u32 id) ∧ w'.cell? ⟨N, 0, none⟩ = some (.int .u64 (d % 1000000000)) ∧ w'.cell? ⟨N, 1, none⟩ = some (.int .i64 (d / 1000000000)) ∧ w'.cell? ⟨N, 2, none⟩ = some (.pointer none) ∧
          w'.cell? ⟨N + 1, 0, none⟩ = some (.int .u64 0) ∧ w'.cell? ⟨N + 1, 1, none⟩ = some (.int .u64 0) ∧ w'.cell? ⟨N + 1, 2, none⟩ = some (.pointer none) ∧ w'.cell? ⟨N + 1, 3, none⟩ = some (.int .u16 0) ∧ w'.cell? ⟨0, 0, none⟩ = some (.int .i64 90000000000) :=
  ⟨block_cell h.a 0, block_cell h.a 1, block_cell h.a 2, block_cell h.a 3, block_cell h.a 4, block_cell h.a 5, block_cell h.b 0, block_cell h.b 1, block_cell h.n 0, block_cell h.n 1, block_cell h.n 2, block_cell h.t 0, block_cell h.t 1, block_cell h.t 2, block_cell h.t 3, h.g⟩

theorem add_until' (d : Int) (h0 : -9223372036854775808 ≤ d) (h1 : d ≤ 9223372036854775807) (w : World) :
    Calls Ybad.prog 5 #[.agg #[.int .u64 (d % 1000000000), .int .i64 (d / 1000000000), .pointer none], .int .i64 90000000000] w fun e w' => e = .returned (.agg #[.int .u64 (d % 1000000000), .int .i64 (d / 1000000000 + 90), .pointer none]) ∧ Below w.heap.size w w' := add_until d h0 h1 w

set_option maxHeartbeats 2000000 in
theorem keep_raw (C R n : Nat) (d text : Int) (mid : ByteArray) (ids sz : Nat → Int) (w : World) (h0 : 0 < n) (hn : n ≤ 1024) (d0 : -9223372036854775808 ≤ d) (d1 : d ≤ 9223372036854775807) (t0 : -1125899906842624 ≤ text) (t1 : text ≤ 1125899906842624) (hS : okS mid)
    (hc : IsC w C (.map none) (.pointer none) (.pointer none) 0 0) (hT : Txs w R n n (fun j => ids (0 + j))) (hU : ∀ i, okU (ids i)) (hsz : ∀ j, j < n → sz (0 + j) = text.tdiv n + 256) (hbd : ∀ i j, i ≤ j → j ≤ 0 + n → -4611686018427387904 ≤ tot sz j - tot sz i ∧ tot sz j - tot sz i ≤ 4611686018427387904)
    (hg : w.cell? ⟨0, 0, none⟩ = some (.int .i64 90000000000)) (hC0 : 0 < C) :
    Calls Ybad.prog 6 #[ptrV C 0, timeOf d, .string mid, zeroAP, .slice (some ⟨R, 0, none⟩) n n, .int .i64 text] w fun e w' => e = .returned (.tuple #[]) ∧ KeepPost w w' C mid ids sz d (0 + n) := by
  have c0 : w.cell? ⟨C, 0, none⟩ = some (.map none) := block_cell hc 0
  have fc : ∀ i, w.frozen? ⟨C, i, none⟩ = false := block_frozen hc
  have hlt := block_lt hc
  have hz : ((n : Int) == 0) = false := by simp; omega
  obtain ⟨tq0, tq1⟩ := tdiv_bd text n h0 1125899906842624 t0 t1
  have HC := hid hc
  have HT := hid hT
  have HU := hid hU
  have HZ := hid hsz
  have HB := hid hbd
  clear hc hT hU hsz hbd
  unfold timeOf
  have q1 := eql24_nil
  have q2 := eql60_nil
  have q3 := @run_makeMap Ybad.prog
  have q4 := make60
  have a3 : ∀ o1 o2 o3, (((w.alloc o1).alloc o2).alloc o3).cell? ⟨C, 0, none⟩ = some (.map none) := fun o1 o2 o3 => by
    rw [World.cell?_alloc_lt _ _ _ (by simp; omega), World.cell?_alloc_lt _ _ _ (by simp; omega), World.cell?_alloc_lt _ _ _ (by simp; omega)]; exact c0
  have f3 : ∀ o1 o2 o3, (((w.alloc o1).alloc o2).alloc o3).frozen? ⟨C, 0, none⟩ = false := fun o1 o2 o3 => by
    rw [World.frozen?_alloc_old _ _ _ (by simp; omega), World.frozen?_alloc_old _ _ _ (by simp; omega), World.frozen?_alloc_old _ _ _ (by simp; omega)]; exact fc 0
  go_enter Ybad.func6, Ybad.ntmps6
  go_wp2_with fail
  clear a3 f3 c0 fc q1 q3
  obtain ⟨O, hOe⟩ : ∃ O, O = w.heap.size + 1 + 1 := ⟨_, rfl⟩
  obtain ⟨U, hW⟩ : ∃ U, U = (((w.alloc (.cells (nowArr d) 46)).alloc (.cells apArr 43)).alloc (.map #[] 0)).setCell ⟨C, 0, none⟩ (.map (some O)) := ⟨_, rfl⟩
  rw [← hOe, ← hW]
  have hO3 : MapS U O (fun _ => none) 0 := by
    have e : O = ((w.alloc (.cells (nowArr d) 46)).alloc (.cells apArr 43)).heap.size := by simp [hOe]
    have := MapIs.made Value.string okS ((w.alloc (.cells (nowArr d) 46)).alloc (.cells apArr 43))
    rw [← e] at this
    rw [hW]; exact this.kept (set_other (by omega) rfl)
  have b3 : Below w.heap.size w (((w.alloc (.cells (nowArr d) 46)).alloc (.cells apArr 43)).alloc (.map #[] 0)) := (((Below.refl _ _).alloc (Nat.le_refl _) _).alloc (by simp) _).alloc (by simp; omega) _
  have un : U.heap[w.heap.size]? = some (.cells (nowArr d) 46 (0, 0)) := by rw [hW]; refine set_other (by omega) ?_; rw [Below.heap_alloc _ _ _ (by simp; omega), Below.heap_alloc _ _ _ (by simp)]; exact heap_alloc_new _ _
  have ut : U.heap[w.heap.size + 1]? = some (.cells apArr 43 (0, 0)) := by rw [hW]; refine set_other (by omega) ?_; rw [Below.heap_alloc _ _ _ (by simp)]; exact alloc_at _ _ _ (by simp)
  have uc : IsC U C (.map (some O)) (.pointer none) (.pointer none) 0 0 := by rw [hW]; exact block_set ((b3.block _ hlt).trans HC.out) 0 _
  have uF : Fr C w U := by
    rw [hW]
    refine (Fr.of_below b3 (Nat.le_refl _) (by omega)).trans (Fr.of_but (p := fun k => k = C) ((But.refl (fun k => k = C) _).set (b := C) rfl _) (by simp; omega) ?_)
    rintro k rfl
    exact ⟨Nat.le_refl _, fun cs t fz e => .inl (by rw [b3.block _ hlt, HC.out] at e; cases e; rfl)⟩
  have us : O < U.heap.size := by obtain ⟨_, _, e⟩ := isMap hO3; exact block_lt e
  have hOw : w.heap.size + 1 < O := by omega
  clear hW hOe
  obtain ⟨I, hIe⟩ : ∃ I, I = U.heap.size := ⟨_, rfl⟩
  have lk : (Instr.lookup 24 (.map (some O)) (.string mid) false).run Ybad.prog U = .ok (.map none) U := by simpa using lookS hO3 hS
  have c0 : ∀ o, (U.alloc o).cell? ⟨C, 0, none⟩ = some (.map (some O)) := fun o => by rw [World.cell?_alloc_lt _ _ _ (by simp; omega)]; exact block_cell uc 0
  have hO4 : MapS (U.alloc (.map #[] 0)) O (fun _ => none) 0 := hO3.kept (Below.heap_alloc _ _ _ us)
  obtain ⟨V, r4, m4, f4⟩ := putS hO4 hS (.map (some I))
  have r4' : (Instr.mapUpdate 24 (.map (some O)) (.string mid) (.map (some U.heap.size))).run Ybad.prog (U.alloc (.map #[] 0)) = .ok () V := by rw [← hIe]; exact r4 0
  have hqO : ∀ k, k = O → ∃ es c, (U.alloc (.map #[] 0)).heap[k]? = some (.map es c) := by rintro k rfl; exact isMap hO4
  have ub : Below U.heap.size U (U.alloc (.map #[] 0)) := (Below.refl _ _).alloc (Nat.le_refl _) _
  have vn : V.heap[w.heap.size]? = some (.cells (nowArr d) 46 (0, 0)) := f4.cells hqO ((ub.block _ (block_lt un)).trans un)
  have vt : V.heap[w.heap.size + 1]? = some (.cells apArr 43 (0, 0)) := f4.cells hqO ((ub.block _ (block_lt ut)).trans ut)
  have hOI : O ≠ I := by omega
  have hI0 : MapU V I (fun _ => none) 0 := by
    have : MapU (U.alloc (.map #[] 0)) I (fun _ => none) 0 := by rw [hIe]; exact MapIs.made _ _ _
    exact this.kept (f4.block _ (by simp; omega) (fun e => hOI e.symm))
  have hO : MapS V O (one mid I) 1 := by
    simp only [Option.isSome_none, Bool.false_eq_true, if_false] at m4
    exact m4.congr (fun s => by unfold upd one; rfl)
  have hL : ∃ el kr, Lst V C (.map (some O)) el kr (fun i => krArr mid (ids i) d (sz i)) 0 (tot sz 0) ∧ MapU V I (idx ids el 0 0) (cntTo ids 0) :=
    ⟨fun _ => 0, fun _ => 0, .inl ⟨rfl, f4.cells hqO ((ub.block _ (block_lt uc)).trans uc)⟩, hI0.congr (fun x => by simp [idx, lastOcc])⟩
  have hF : Fr C w V := uF.trans ((Fr.of_below ub (Nat.le_refl _) (by have := block_lt uc; omega)).trans (Fr.of_but f4 (by have := block_lt uc; simp; omega) (fun k hk => ⟨by omega, fun cs t fz e => by obtain ⟨_, _, g⟩ := hqO k hk; rw [g] at e; cases e⟩)))
  have hCO : C < O := by omega
  have hCI : C < I := by omega
  have sV : C < V.heap.size := by have := f4.size; simp at this; omega
  clear un ut uc hO3 hO4 m4 r4 f4 hqO ub hI0 uF b3 HC us
  have HIe := hid hIe
  clear hIe
  rw [lk]
  go_wp2_with fail
  rw [← HIe.out]
  clear lk c0 r4' q2 q4 HIe
  have hOI : O ≠ I := by obtain ⟨_, _, _, hI⟩ := hL; exact map_ne hO hI
  go_loopw [54] (fun i wr => ∃ k : Nat, k ≤ n ∧ i = .int .i64 k ∧ (∃ el kr, Lst wr C (.map (some O)) el kr (fun i => krArr mid (ids i) d (sz i)) (0 + k) (tot sz (0 + k)) ∧ MapU wr I (idx ids el 0 (0 + k)) (cntTo ids (0 + k))) ∧ MapS wr O (one mid I) 1 ∧ Fr C w wr ∧
    wr.heap[w.heap.size]? = some (.cells (nowArr d) 46 (0, 0)) ∧ wr.heap[w.heap.size + 1]? = some (.cells apArr 43 (0, 0))) (fun i _ => n - (intOf i).toNat)
  case atStart => exact ⟨0, Nat.zero_le _, rfl, hL, hO, hF, vn, vt⟩
  case round =>
    clear hL hO hF vn vt sV
    obtain ⟨k, hk, rfl, ⟨el, kr, hL, hI⟩, hO, hF, vn, vt⟩ := hrel
    by_cases hlt : k < n
    · obtain ⟨⟨x0, ⟨v, x1, hv⟩, x2, x3, x4, x5⟩, -⟩ := (HT.out.kept hF).cell hlt
      obtain rfl := hv hlt
      have hR : R < wr.heap.size := by obtain ⟨cur, hb, _⟩ := HT.out.kept hF; exact block_lt hb
      have g0 : wr.cell? ⟨0, 0, none⟩ = some (.int .i64 90000000000) := (hF.below.cell (by exact hC0)).trans hg
      have hsk := HZ.out k hlt
      have bd := HB.out 0 (0 + k + 1) (Nat.zero_le _) (by omega)
      obtain ⟨ix, hix⟩ : ∃ ix, ix = 0 + k := ⟨_, rfl⟩
      have hixn : ix ≤ 100000 := by omega
      try dsimp only at x1
      rw [← hix] at x1 hsk hL hI bd
      rw [show tot sz 0 = 0 from rfl, Int.sub_zero, tot] at bd
      obtain ⟨bd0, bd1⟩ := bd
      rw [hsk] at bd0 bd1
      have HSK := hid hsk
      have HIX := hid hix
      have HL := hid hL
      have HI := hid hI
      have HO := hid hO
      have HF := hid hF
      have VN := hid vn
      have VT := hid vt
      have HR := hid hR
      clear hL hI hO hF hsk hix
      go_wp2_with fail
      obtain ⟨we, hwe⟩ : ∃ we, we = (wr.alloc (.cells #[.int .i64 0, .int .u32 (ids ix), .bool false, .slice none 0 0, .pointer none, .slice none 0 0] 67)).alloc (.cells #[.string mid, .int .u32 (ids ix)] 69) := ⟨_, rfl⟩
      rw [← hwe]
      have ea : we.heap[wr.heap.size]? = some (.cells #[.int .i64 0, .int .u32 (ids ix), .bool false, .slice none 0 0, .pointer none, .slice none 0 0] 67 (0, 0)) := by rw [hwe, Below.heap_alloc _ _ _ (by simp)]; exact heap_alloc_new _ _
      have eb : we.heap[wr.heap.size + 1]? = some (.cells #[.string mid, .int .u32 (ids ix)] 69 (0, 0)) := by rw [hwe]; exact alloc_at _ _ _ (by simp)
      have hb : Below wr.heap.size wr we := by rw [hwe]; exact ((Below.refl _ _).alloc (Nat.le_refl _) _).alloc (by simp) _
      have en : we.heap[w.heap.size]? = some (.cells (nowArr d) 46 (0, 0)) := (hb.block _ (block_lt vn)).trans vn
      have et : we.heap[w.heap.size + 1]? = some (.cells apArr 43 (0, 0)) := (hb.block _ (block_lt vt)).trans vt
      have y0 : we.cell? ⟨0, 0, none⟩ = some (.int .i64 90000000000) := (hb.cell (by have := HL.out.lt_c; show 0 < _; omega)).trans g0
      have HRd := hid (show Rd we wr.heap.size w.heap.size d mid (ids ix) from ⟨ea, eb, en, et, y0⟩)
      have HBe := hid hb
      clear hwe ea eb hb en et x0 x1 x2 x3 x4 x5 g0 vn vt hR y0
      obtain ⟨a0, a1, a2, a3, a4, a5, b0, b1, n0, n1, n2, p0, p1, p2, p3, y0⟩ := HRd.out.cells
      go_region_held3 (fun w' => w'.cell? ⟨wr.heap.size, 0, none⟩ = some (.int .i64 0) ∧ w'.cell? ⟨wr.heap.size, 1, none⟩ = some (.int .u32 (ids ix)) ∧ w'.cell? ⟨wr.heap.size, 2, none⟩ = some (.bool false) ∧ w'.cell? ⟨wr.heap.size, 3, none⟩ = some (.slice none 0 0) ∧ w'.cell? ⟨wr.heap.size, 4, none⟩ = some (.pointer none) ∧ w'.cell? ⟨wr.heap.size, 5, none⟩ = some (.slice none 0 0) ∧
          w'.cell? ⟨wr.heap.size + 1, 0, none⟩ = some (.string mid) ∧ w'.cell? ⟨wr.heap.size + 1, 1, none⟩ = some (.int .u32 (ids ix)) ∧ w'.cell? ⟨w.heap.size, 0, none⟩ = some (.int .u64 (d % 1000000000)) ∧ w'.cell? ⟨w.heap.size, 1, none⟩ = some (.int .i64 (d / 1000000000)) ∧ w'.cell? ⟨w.heap.size, 2, none⟩ = some (.pointer none) ∧
          w'.cell? ⟨w.heap.size + 1, 0, none⟩ = some (.int .u64 0) ∧ w'.cell? ⟨w.heap.size + 1, 1, none⟩ = some (.int .u64 0) ∧ w'.cell? ⟨w.heap.size + 1, 2, none⟩ = some (.pointer none) ∧ w'.cell? ⟨w.heap.size + 1, 3, none⟩ = some (.int .u16 0) ∧ w'.cell? ⟨0, 0, none⟩ = some (.int .i64 90000000000)) (go_keep)
        (first
          | (go_at_call 5; refine (add_until' d d0 d1 _).mono ?_; rintro e w2 ⟨rfl, hb2⟩; have HB2 : Hid (Below we.heap.size we w2) := (Below.refl _ _).drew.trans hb2; have HR2 : Hid (Rd w2 wr.heap.size w.heap.size d mid (ids ix)) := HRd.out.kept HB2.out; obtain ⟨a0', a1', a2', a3', a4', a5', b0', b1', n0', n1', n2', p0', p1', p2', p3', y0'⟩ := HR2.out.cells))
      clear a0' a2' a3' a4' a5' b0' b1' n0' n1' n2' p0' p1' p2' p3' y0' a0 a1 a2 a3 a4 a5 b0 b1 n0 n1 n2 p0 p1 p2 p3 y0 a1'
      try clear hHeld
      obtain ⟨wf, hwf⟩ : ∃ wf, wf = w2.alloc (.cells (krArr mid (ids ix) d (text.tdiv n + 256)) 72) := ⟨_, rfl⟩
      rw [← hwf]
      have bf : Below we.heap.size we wf := by rw [hwf]; exact HB2.out.alloc HB2.out.size _
      have hK : wf.heap[w2.heap.size]? = some (.cells (krArr mid (ids ix) d (sz ix)) 72 (0, 0)) := by rw [hwf, HSK.out]; exact heap_alloc_new _ _
      have bw : Below wr.heap.size wr wf := HBe.out.trans (bf.mono HBe.out.size)
      have HAf := hid ((bf.block _ (block_lt HRd.out.a)).trans HRd.out.a)
      have z1 : wf.cell? ⟨wr.heap.size, 1, none⟩ = some (.int .u32 (ids ix)) := block_cell HAf.out 1
      have HLf := hid (HL.out.below bw)
      have HIf := hid (HI.out.kept (bw.block _ (by obtain ⟨_, _, e⟩ := isMap HI.out; exact block_lt e)))
      have HOf := hid (HO.out.kept (bw.block _ (by obtain ⟨_, _, e⟩ := isMap HO.out; exact block_lt e)))
      have HFf := hid (HF.out.trans (Fr.of_below bw (Nat.le_refl _) (Nat.le_of_lt HL.out.lt_c)))
      have HKf := hid hK
      have VNf := hid ((bw.block _ (block_lt VN.out)).trans VN.out)
      have VTf := hid ((bw.block _ (block_lt VT.out)).trans VT.out)
      clear hwf hK bf bw HL HI HO HF HBe HB2 HR2 HRd VN VT HR
      go_wp2_with fail
      go_region_held3 (fun w' => w'.cell? ⟨wr.heap.size, 1, none⟩ = some (.int .u32 (ids ix))) (go_keep)
        (first
          | (go_at_call 14; refine (push_call (w := wf.drew) HLf.out.drew (map_drew HOf.out 1) (map_drew HIf.out 1) hCO hCI hixn (HU.out ix) (drew_at HKf.out) (drew_at HAf.out) (x := .int .u32 (ids ix)) rfl).mono ?_; rintro e w3 ⟨E, w4, rfl, r4, z3, z4, s6, sf, HS⟩))
      obtain ⟨⟨el', kr', hLn, hIn⟩, hOn, hFn⟩ := HS.out (tot sz ix + (text.tdiv n + 256))
      have hFn' : Fr C w (w4.setCell ⟨C, 6, none⟩ (.int .i64 (tot sz ix + (text.tdiv n + 256)))) := (HFf.out.drew.trans hFn)
      have HN := hid (show (∃ el kr, Lst (w4.setCell ⟨C, 6, none⟩ (.int .i64 (tot sz ix + (text.tdiv n + 256)))) C (.map (some O)) el kr (fun i => krArr mid (ids i) d (sz i)) (0 + (k + 1)) (tot sz (0 + (k + 1))) ∧ MapU (w4.setCell ⟨C, 6, none⟩ (.int .i64 (tot sz ix + (text.tdiv n + 256)))) I (idx ids el 0 (0 + (k + 1))) (cntTo ids (0 + (k + 1)))) from by
        rw [show 0 + (k + 1) = ix + 1 by have := HIX.out; omega, tot, HSK.out]
        exact ⟨el', kr', hLn, hIn⟩)
      have HON := hid hOn
      have HFN := hid hFn'
      have HVN := hid (hFn.cells _ _ _ _ (drew_at VNf.out) (by decide) (by decide))
      have HVT := hid (hFn.cells _ _ _ _ (drew_at VTf.out) (by decide) (by decide))
      clear hLn hIn hOn hFn hFn' HS r4 z3 z4 HLf HIf HOf HFf HKf VNf VTf HAf z1
      go_wp2_with fail
      go_roundw
      case rel => exact ⟨k + 1, by omega, by go_num, HN.out, HON.out, HFN.out, HVN.out, HVT.out⟩
      case measure => simp [intOf]; omega
    · obtain rfl : k = n := by omega
      have hpos : 0 < 0 + k := by omega
      have hLS : LS wr C (.map (some O)) el kr (fun i => krArr mid (ids i) d (sz i)) 0 (0 + k) (tot sz (0 + k) - tot sz 0) := by
        rcases hL with ⟨e, _⟩ | ⟨_, h⟩
        · omega
        · rw [show tot sz 0 = 0 from rfl, Int.sub_zero]; exact h
      have hMS : MapSt wr O I mid (idx ids el 0 (0 + k)) (cntTo ids (0 + k) - cntTo ids 0) := ⟨fun _ => ⟨hO, hI⟩, fun e => by have := cnt_pos ids hpos; rw [show cntTo ids 0 = 0 from rfl] at e; omega⟩
      have HLS := hid hLS
      have HMS := hid hMS
      have HFS := hid hF
      obtain ⟨hi, hhi⟩ : ∃ hi, hi = 0 + k := ⟨_, rfl⟩
      have hiN : hi ≤ 100000 := by omega
      rw [← hhi] at HLS HMS HB
      have HHI := hid hhi
      clear hL hI hO hF vn vt HT hLS hMS hhi hpos
      go_wp2_with fail
      go_loopw [93] (fun _ wq => ∃ lo, lo ≤ hi ∧ LS wq C (.map (some O)) el kr (fun i => krArr mid (ids i) d (sz i)) lo hi (tot sz hi - tot sz lo) ∧ MapSt wq O I mid (idx ids el lo hi) (cntTo ids hi - cntTo ids lo) ∧ Fr C w wq ∧ ∀ l, l < lo → 4194304 < tot sz hi - tot sz l) (fun _ wq => lenAt wq C)
      case atStart => exact ⟨0, Nat.zero_le _, HLS.out, HMS.out, HFS.out, fun l hl => by omega⟩
      case round =>
        clear HLS HMS HFS
        obtain ⟨lo, hlo, hL, hM, hF, hA⟩ := hrel
        obtain ⟨nx, pv, hc, hnp⟩ := hL.c
        have c6 : wr.cell? ⟨C, 6, none⟩ = some (.int .i64 (tot sz hi - tot sz lo)) := block_cell hc 6
        have HL := hid hL
        have HM := hid hM
        have HF := hid hF
        have HA := hid hA
        have HC := hid hc
        have HNP := hid hnp
        have hlen := hid hL.lenAt
        clear hL hM hF hA hc hnp
        by_cases hgt : 4194304 < tot sz hi - tot sz lo
        · have hlt2 : lo < hi := by
            rcases Nat.lt_or_ge lo hi with g | g
            · exact g
            · rw [show lo = hi by omega] at hgt; omega
          obtain ⟨bd0, bd1⟩ := HB.out (lo + 1) hi hlt2 (Nat.le_refl _)
          rw [tot] at bd0 bd1
          have e1 : tot sz hi - tot sz lo - sz lo = tot sz hi - tot sz (lo + 1) := by rw [tot]; omega
          have HE1 := hid e1
          clear e1
          go_wp2_with fail
          obtain ⟨rfl, rfl⟩ := HNP.out hlt2
          refine (Front_more C (el lo) _ _ _ _ (by omega) (by omega) wr HC.out).mono ?_
          rintro e w5 ⟨rfl, rfl⟩
          go_wp2_with fail
          refine (letGo_any (I := I) (mid := mid) (ids := ids) (d := d) (z := sz lo) HL.out hlt2 hiN rfl hS (HU.out lo) HM.out (by have := cnt_le ids hi; omega) hCO hCI (by omega) (by omega)).mono ?_
          rintro e w6 ⟨rfl, l6, m6, f6⟩
          rw [HE1.out] at l6
          have HL6 := hid l6
          have HM6 := hid m6
          have HF6 := hid (HF.out.trans f6)
          have hlen6 := hid l6.lenAt
          clear l6 m6 f6
          go_wp2_with fail
          go_roundw
          case rel => exact ⟨lo + 1, by omega, HL6.out, HM6.out, HF6.out, fun l hl => by
            rcases Nat.lt_or_ge l lo with g | g
            · exact HA.out l g
            · rw [show l = lo by omega]; exact hgt⟩
          case measure => rw [hlen6.out, hlen.out]; omega
        · go_wp2_with fail
          go_end0
          first
            | rw [← HHI.out]
            | (have e := HHI.out
               rw [Nat.zero_add] at e
               rw [← e])
          exact ⟨rfl, O, I, el, kr, lo, hCO, hCI, hlo, HL.out, HM.out, HF.out, by omega, HA.out⟩

set_option maxHeartbeats 2000000 in
theorem keep_more (C R n H O I : Nat) (el kr : Nat → Nat) (d text : Int) (mid : ByteArray) (ids sz : Nat → Int) (w : World) (h0 : 0 < n) (hn : n ≤ 1024) (hH0 : 0 < H) (hH : H ≤ 1024) (d0 : -9223372036854775808 ≤ d) (d1 : d ≤ 9223372036854775807) (t0 : -1125899906842624 ≤ text) (t1 : text ≤ 1125899906842624) (hS : okS mid)
    (hl : LS w C (.map (some O)) el kr (fun i => krArr mid (ids i) d (sz i)) 0 H (tot sz H)) (hO : MapS w O (one mid I) 1) (hI : MapU w I (idx ids el 0 H) (cntTo ids H)) (hCO : C < O) (hCI : C < I) (hT : Txs w R n n (fun j => ids (H + j))) (hU : ∀ i, okU (ids i)) (hsz : ∀ j, j < n → sz (H + j) = text.tdiv n + 256) (hbd : ∀ i j, i ≤ j → j ≤ H + n → -4611686018427387904 ≤ tot sz j - tot sz i ∧ tot sz j - tot sz i ≤ 4611686018427387904)
    (hg : w.cell? ⟨0, 0, none⟩ = some (.int .i64 90000000000)) (hC0 : 0 < C) :
    Calls Ybad.prog 6 #[ptrV C 0, timeOf d, .string mid, zeroAP, .slice (some ⟨R, 0, none⟩) n n, .int .i64 text] w fun e w' => e = .returned (.tuple #[]) ∧ KeepPost w w' C mid ids sz d (H + n) := by
  obtain ⟨_, _, hc, _⟩ := hl.c
  have c0 : w.cell? ⟨C, 0, none⟩ = some (.map (some O)) := block_cell hc 0
  have hlt := block_lt hc
  have hz : ((n : Int) == 0) = false := by simp; omega
  obtain ⟨tq0, tq1⟩ := tdiv_bd text n h0 1125899906842624 t0 t1
  have HT := hid hT
  have HL := hid hl
  have HO := hid hO
  have HI := hid hI
  have HU := hid hU
  have HZ := hid hsz
  have HB := hid hbd
  have q1 := eql24_some O
  have q2 := eql60_some I
  have hb2 : ∀ o1 o2, Below w.heap.size w ((w.alloc o1).alloc o2) := fun o1 o2 => ((Below.refl _ _).alloc (Nat.le_refl _) _).alloc (by simp) _
  have lk : ∀ o1 o2, (Instr.lookup 24 (.map (some O)) (.string mid) false).run Ybad.prog ((w.alloc o1).alloc o2) = .ok (.map (some I)) ((w.alloc o1).alloc o2) := fun o1 o2 => by
    simpa [one] using lookS (hO.kept ((hb2 o1 o2).block _ (by obtain ⟨_, _, e⟩ := isMap hO; exact block_lt e))) hS
  have HB2 := hid hb2
  clear hc hT hl hO hI hU hsz hbd hb2
  unfold timeOf
  go_enter Ybad.func6, Ybad.ntmps6
  go_wp2_with fail
  clear q1 q2 lk c0
  obtain ⟨V, hV⟩ : ∃ V, V = (w.alloc (.cells (nowArr d) 46)).alloc (.cells apArr 43) := ⟨_, rfl⟩
  have vn : V.heap[w.heap.size]? = some (.cells (nowArr d) 46 (0, 0)) := by rw [hV, Below.heap_alloc _ _ _ (by simp)]; exact heap_alloc_new _ _
  have vt : V.heap[w.heap.size + 1]? = some (.cells apArr 43 (0, 0)) := by rw [hV]; exact alloc_at _ _ _ (by simp)
  have vb : Below w.heap.size w V := by rw [hV]; exact HB2.out _ _
  have hL : ∃ el kr, Lst V C (.map (some O)) el kr (fun i => krArr mid (ids i) d (sz i)) H (tot sz H) ∧ MapU V I (idx ids el 0 H) (cntTo ids H) := ⟨el, kr, .inr ⟨hH0, HL.out.below vb⟩, HI.out.kept (vb.block _ (by obtain ⟨_, _, e⟩ := isMap HI.out; exact block_lt e))⟩
  have hO : MapS V O (one mid I) 1 := HO.out.kept (vb.block _ (by obtain ⟨_, _, e⟩ := isMap HO.out; exact block_lt e))
  have hF : Fr C w V := Fr.of_below vb (Nat.le_refl _) (by omega)
  rw [← hV]
  clear hV HB2 HL HI HO
  have sV : C < V.heap.size := by have := vb.size; omega
  have hOI : O ≠ I := by obtain ⟨_, _, _, hI⟩ := hL; exact map_ne hO hI
  go_loopw [54] (fun i wr => ∃ k : Nat, k ≤ n ∧ i = .int .i64 k ∧ (∃ el kr, Lst wr C (.map (some O)) el kr (fun i => krArr mid (ids i) d (sz i)) (H + k) (tot sz (H + k)) ∧ MapU wr I (idx ids el 0 (H + k)) (cntTo ids (H + k))) ∧ MapS wr O (one mid I) 1 ∧ Fr C w wr ∧
    wr.heap[w.heap.size]? = some (.cells (nowArr d) 46 (0, 0)) ∧ wr.heap[w.heap.size + 1]? = some (.cells apArr 43 (0, 0))) (fun i _ => n - (intOf i).toNat)
  case atStart => exact ⟨0, Nat.zero_le _, rfl, hL, hO, hF, vn, vt⟩
  case round =>
    clear hL hO hF vn vt sV
    obtain ⟨k, hk, rfl, ⟨el, kr, hL, hI⟩, hO, hF, vn, vt⟩ := hrel
    by_cases hlt : k < n
    · obtain ⟨⟨x0, ⟨v, x1, hv⟩, x2, x3, x4, x5⟩, -⟩ := (HT.out.kept hF).cell hlt
      obtain rfl := hv hlt
      have hR : R < wr.heap.size := by obtain ⟨cur, hb, _⟩ := HT.out.kept hF; exact block_lt hb
      have g0 : wr.cell? ⟨0, 0, none⟩ = some (.int .i64 90000000000) := (hF.below.cell (by exact hC0)).trans hg
      have hsk := HZ.out k hlt
      have bd := HB.out 0 (H + k + 1) (Nat.zero_le _) (by omega)
      obtain ⟨ix, hix⟩ : ∃ ix, ix = H + k := ⟨_, rfl⟩
      have hixn : ix ≤ 100000 := by omega
      try dsimp only at x1
      rw [← hix] at x1 hsk hL hI bd
      rw [show tot sz 0 = 0 from rfl, Int.sub_zero, tot] at bd
      obtain ⟨bd0, bd1⟩ := bd
      rw [hsk] at bd0 bd1
      have HSK := hid hsk
      have HIX := hid hix
      have HL := hid hL
      have HI := hid hI
      have HO := hid hO
      have HF := hid hF
      have VN := hid vn
      have VT := hid vt
      have HR := hid hR
      clear hL hI hO hF hsk hix
      go_wp2_with fail
      obtain ⟨we, hwe⟩ : ∃ we, we = (wr.alloc (.cells #[.int .i64 0, .int .u32 (ids ix), .bool false, .slice none 0 0, .pointer none, .slice none 0 0] 67)).alloc (.cells #[.string mid, .int .u32 (ids ix)] 69) := ⟨_, rfl⟩
      rw [← hwe]
      have ea : we.heap[wr.heap.size]? = some (.cells #[.int .i64 0, .int .u32 (ids ix), .bool false, .slice none 0 0, .pointer none, .slice none 0 0] 67 (0, 0)) := by rw [hwe, Below.heap_alloc _ _ _ (by simp)]; exact heap_alloc_new _ _
      have eb : we.heap[wr.heap.size + 1]? = some (.cells #[.string mid, .int .u32 (ids ix)] 69 (0, 0)) := by rw [hwe]; exact alloc_at _ _ _ (by simp)
      have hb : Below wr.heap.size wr we := by rw [hwe]; exact ((Below.refl _ _).alloc (Nat.le_refl _) _).alloc (by simp) _
      have en : we.heap[w.heap.size]? = some (.cells (nowArr d) 46 (0, 0)) := (hb.block _ (block_lt vn)).trans vn
      have et : we.heap[w.heap.size + 1]? = some (.cells apArr 43 (0, 0)) := (hb.block _ (block_lt vt)).trans vt
      have y0 : we.cell? ⟨0, 0, none⟩ = some (.int .i64 90000000000) := (hb.cell (by have := HL.out.lt_c; show 0 < _; omega)).trans g0
      have HRd := hid (show Rd we wr.heap.size w.heap.size d mid (ids ix) from ⟨ea, eb, en, et, y0⟩)
      have HBe := hid hb
      clear hwe ea eb hb en et x0 x1 x2 x3 x4 x5 g0 vn vt hR y0
      obtain ⟨a0, a1, a2, a3, a4, a5, b0, b1, n0, n1, n2, p0, p1, p2, p3, y0⟩ := HRd.out.cells
      go_region_held3 (fun w' => w'.cell? ⟨wr.heap.size, 0, none⟩ = some (.int .i64 0) ∧ w'.cell? ⟨wr.heap.size, 1, none⟩ = some (.int .u32 (ids ix)) ∧ w'.cell? ⟨wr.heap.size, 2, none⟩ = some (.bool false) ∧ w'.cell? ⟨wr.heap.size, 3, none⟩ = some (.slice none 0 0) ∧ w'.cell? ⟨wr.heap.size, 4, none⟩ = some (.pointer none) ∧ w'.cell? ⟨wr.heap.size, 5, none⟩ = some (.slice none 0 0) ∧
          w'.cell? ⟨wr.heap.size + 1, 0, none⟩ = some (.string mid) ∧ w'.cell? ⟨wr.heap.size + 1, 1, none⟩ = some (.int .u32 (ids ix)) ∧ w'.cell? ⟨w.heap.size, 0, none⟩ = some (.int .u64 (d % 1000000000)) ∧ w'.cell? ⟨w.heap.size, 1, none⟩ = some (.int .i64 (d / 1000000000)) ∧ w'.cell? ⟨w.heap.size, 2, none⟩ = some (.pointer none) ∧
          w'.cell? ⟨w.heap.size + 1, 0, none⟩ = some (.int .u64 0) ∧ w'.cell? ⟨w.heap.size + 1, 1, none⟩ = some (.int .u64 0) ∧ w'.cell? ⟨w.heap.size + 1, 2, none⟩ = some (.pointer none) ∧ w'.cell? ⟨w.heap.size + 1, 3, none⟩ = some (.int .u16 0) ∧ w'.cell? ⟨0, 0, none⟩ = some (.int .i64 90000000000)) (go_keep)
        (first
          | (go_at_call 5; refine (add_until' d d0 d1 _).mono ?_; rintro e w2 ⟨rfl, hb2⟩; have HB2 : Hid (Below we.heap.size we w2) := (Below.refl _ _).drew.trans hb2; have HR2 : Hid (Rd w2 wr.heap.size w.heap.size d mid (ids ix)) := HRd.out.kept HB2.out; obtain ⟨a0', a1', a2', a3', a4', a5', b0', b1', n0', n1', n2', p0', p1', p2', p3', y0'⟩ := HR2.out.cells))
      clear a0' a2' a3' a4' a5' b0' b1' n0' n1' n2' p0' p1' p2' p3' y0' a0 a1 a2 a3 a4 a5 b0 b1 n0 n1 n2 p0 p1 p2 p3 y0 a1'
      try clear hHeld
      obtain ⟨wf, hwf⟩ : ∃ wf, wf = w2.alloc (.cells (krArr mid (ids ix) d (text.tdiv n + 256)) 72) := ⟨_, rfl⟩
      rw [← hwf]
      have bf : Below we.heap.size we wf := by rw [hwf]; exact HB2.out.alloc HB2.out.size _
      have hK : wf.heap[w2.heap.size]? = some (.cells (krArr mid (ids ix) d (sz ix)) 72 (0, 0)) := by rw [hwf, HSK.out]; exact heap_alloc_new _ _
      have bw : Below wr.heap.size wr wf := HBe.out.trans (bf.mono HBe.out.size)
      have HAf := hid ((bf.block _ (block_lt HRd.out.a)).trans HRd.out.a)
      have z1 : wf.cell? ⟨wr.heap.size, 1, none⟩ = some (.int .u32 (ids ix)) := block_cell HAf.out 1
      have HLf := hid (HL.out.below bw)
      have HIf := hid (HI.out.kept (bw.block _ (by obtain ⟨_, _, e⟩ := isMap HI.out; exact block_lt e)))
      have HOf := hid (HO.out.kept (bw.block _ (by obtain ⟨_, _, e⟩ := isMap HO.out; exact block_lt e)))
      have HFf := hid (HF.out.trans (Fr.of_below bw (Nat.le_refl _) (Nat.le_of_lt HL.out.lt_c)))
      have HKf := hid hK
      have VNf := hid ((bw.block _ (block_lt VN.out)).trans VN.out)
      have VTf := hid ((bw.block _ (block_lt VT.out)).trans VT.out)
      clear hwf hK bf bw HL HI HO HF HBe HB2 HR2 HRd VN VT HR
      go_wp2_with fail
      go_region_held3 (fun w' => w'.cell? ⟨wr.heap.size, 1, none⟩ = some (.int .u32 (ids ix))) (go_keep)
        (first
          | (go_at_call 14; refine (push_call (w := wf.drew) HLf.out.drew (map_drew HOf.out 1) (map_drew HIf.out 1) hCO hCI hixn (HU.out ix) (drew_at HKf.out) (drew_at HAf.out) (x := .int .u32 (ids ix)) rfl).mono ?_; rintro e w3 ⟨E, w4, rfl, r4, z3, z4, s6, sf, HS⟩))
      obtain ⟨⟨el', kr', hLn, hIn⟩, hOn, hFn⟩ := HS.out (tot sz ix + (text.tdiv n + 256))
      have hFn' : Fr C w (w4.setCell ⟨C, 6, none⟩ (.int .i64 (tot sz ix + (text.tdiv n + 256)))) := (HFf.out.drew.trans hFn)
      have HN := hid (show (∃ el kr, Lst (w4.setCell ⟨C, 6, none⟩ (.int .i64 (tot sz ix + (text.tdiv n + 256)))) C (.map (some O)) el kr (fun i => krArr mid (ids i) d (sz i)) (H + (k + 1)) (tot sz (H + (k + 1))) ∧ MapU (w4.setCell ⟨C, 6, none⟩ (.int .i64 (tot sz ix + (text.tdiv n + 256)))) I (idx ids el 0 (H + (k + 1))) (cntTo ids (H + (k + 1)))) from by
        rw [show H + (k + 1) = ix + 1 by have := HIX.out; omega, tot, HSK.out]
        exact ⟨el', kr', hLn, hIn⟩)
      have HON := hid hOn
      have HFN := hid hFn'
      have HVN := hid (hFn.cells _ _ _ _ (drew_at VNf.out) (by decide) (by decide))
      have HVT := hid (hFn.cells _ _ _ _ (drew_at VTf.out) (by decide) (by decide))
      clear hLn hIn hOn hFn hFn' HS r4 z3 z4 HLf HIf HOf HFf HKf VNf VTf HAf z1
      go_wp2_with fail
      go_roundw
      case rel => exact ⟨k + 1, by omega, by go_num, HN.out, HON.out, HFN.out, HVN.out, HVT.out⟩
      case measure => simp [intOf]; omega
    · obtain rfl : k = n := by omega
      have hpos : 0 < H + k := by omega
      have hLS : LS wr C (.map (some O)) el kr (fun i => krArr mid (ids i) d (sz i)) 0 (H + k) (tot sz (H + k) - tot sz 0) := by
        rcases hL with ⟨e, _⟩ | ⟨_, h⟩
        · omega
        · rw [show tot sz 0 = 0 from rfl, Int.sub_zero]; exact h
      have hMS : MapSt wr O I mid (idx ids el 0 (H + k)) (cntTo ids (H + k) - cntTo ids 0) := ⟨fun _ => ⟨hO, hI⟩, fun e => by have := cnt_pos ids hpos; rw [show cntTo ids 0 = 0 from rfl] at e; omega⟩
      have HLS := hid hLS
      have HMS := hid hMS
      have HFS := hid hF
      obtain ⟨hi, hhi⟩ : ∃ hi, hi = H + k := ⟨_, rfl⟩
      have hiN : hi ≤ 100000 := by omega
      rw [← hhi] at HLS HMS HB
      have HHI := hid hhi
      clear hL hI hO hF vn vt HT hLS hMS hhi hpos
      go_wp2_with fail
      go_loopw [93] (fun _ wq => ∃ lo, lo ≤ hi ∧ LS wq C (.map (some O)) el kr (fun i => krArr mid (ids i) d (sz i)) lo hi (tot sz hi - tot sz lo) ∧ MapSt wq O I mid (idx ids el lo hi) (cntTo ids hi - cntTo ids lo) ∧ Fr C w wq ∧ ∀ l, l < lo → 4194304 < tot sz hi - tot sz l) (fun _ wq => lenAt wq C)
      case atStart => exact ⟨0, Nat.zero_le _, HLS.out, HMS.out, HFS.out, fun l hl => by omega⟩
      case round =>
        clear HLS HMS HFS
        obtain ⟨lo, hlo, hL, hM, hF, hA⟩ := hrel
        obtain ⟨nx, pv, hc, hnp⟩ := hL.c
        have c6 : wr.cell? ⟨C, 6, none⟩ = some (.int .i64 (tot sz hi - tot sz lo)) := block_cell hc 6
        have HL := hid hL
        have HM := hid hM
        have HF := hid hF
        have HA := hid hA
        have HC := hid hc
        have HNP := hid hnp
        have hlen := hid hL.lenAt
        clear hL hM hF hA hc hnp
        by_cases hgt : 4194304 < tot sz hi - tot sz lo
        · have hlt2 : lo < hi := by
            rcases Nat.lt_or_ge lo hi with g | g
            · exact g
            · rw [show lo = hi by omega] at hgt; omega
          obtain ⟨bd0, bd1⟩ := HB.out (lo + 1) hi hlt2 (Nat.le_refl _)
          rw [tot] at bd0 bd1
          have e1 : tot sz hi - tot sz lo - sz lo = tot sz hi - tot sz (lo + 1) := by rw [tot]; omega
          have HE1 := hid e1
          clear e1
          go_wp2_with fail
          obtain ⟨rfl, rfl⟩ := HNP.out hlt2
          refine (Front_more C (el lo) _ _ _ _ (by omega) (by omega) wr HC.out).mono ?_
          rintro e w5 ⟨rfl, rfl⟩
          go_wp2_with fail
          refine (letGo_any (I := I) (mid := mid) (ids := ids) (d := d) (z := sz lo) HL.out hlt2 hiN rfl hS (HU.out lo) HM.out (by have := cnt_le ids hi; omega) hCO hCI (by omega) (by omega)).mono ?_
          rintro e w6 ⟨rfl, l6, m6, f6⟩
          rw [HE1.out] at l6
          have HL6 := hid l6
          have HM6 := hid m6
          have HF6 := hid (HF.out.trans f6)
          have hlen6 := hid l6.lenAt
          clear l6 m6 f6
          go_wp2_with fail
          go_roundw
          case rel => exact ⟨lo + 1, by omega, HL6.out, HM6.out, HF6.out, fun l hl => by
            rcases Nat.lt_or_ge l lo with g | g
            · exact HA.out l g
            · rw [show l = lo by omega]; exact hgt⟩
          case measure => rw [hlen6.out, hlen.out]; omega
        · go_wp2_with fail
          go_end0
          first
            | rw [← HHI.out]
            | (have e := HHI.out
               rw [Nat.zero_add] at e
               rw [← e])
          exact ⟨rfl, O, I, el, kr, lo, hCO, hCI, hlo, HL.out, HM.out, HF.out, by omega, HA.out⟩

end Go.Proofs.YbulkcamsDoor.KP
