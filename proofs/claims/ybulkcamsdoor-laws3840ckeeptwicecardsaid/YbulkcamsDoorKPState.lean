import Derived.Test.YbulkcamsDoorKPRemove
import Derived.Test.YbulkcamsDoorKPTime
namespace Go.Proofs.YbulkcamsDoor.KP
open Go.RowKit Ext
open MapFn (MapIs upd upd_same upd_other)
set_option maxRecDepth 10000
set_option linter.unusedSimpArgs false
set_option linter.unusedVariables false

/-- The last of the first n items whose id is x. -/
def lastOcc (ids : Nat → Int) : Nat → Int → Option Nat
  | 0, _ => none
  | n + 1, x => if ids n = x then some n else lastOcc ids n x

def idx (ids : Nat → Int) (el : Nat → Nat) (lo hi : Nat) (x : Int) : Option Value :=
  if (lastOcc ids lo x).isSome then none else (lastOcc ids hi x).map (fun j => ptrV (el j) 0)

def firstB (ids : Nat → Int) (i : Nat) : Bool := (lastOcc ids i (ids i)).isNone

def cntTo (ids : Nat → Int) : Nat → Nat
  | 0 => 0
  | n + 1 => cntTo ids n + (if firstB ids n = true then 1 else 0)

theorem lastOcc_lt {ids : Nat → Int} {x : Int} {j : Nat} : ∀ {n}, lastOcc ids n x = some j → j < n ∧ ids j = x
  | 0, h => by cases h
  | n + 1, h => by
    unfold lastOcc at h
    split at h
    · cases h; exact ⟨Nat.lt_succ_self _, by assumption⟩
    · have := lastOcc_lt h; exact ⟨by omega, this.2⟩

theorem lastOcc_some {ids : Nat → Int} {x : Int} {i : Nat} (hx : ids i = x) : ∀ {n}, i < n → ∃ j, lastOcc ids n x = some j ∧ i ≤ j
  | 0, h => by omega
  | n + 1, h => by
    unfold lastOcc
    split
    · exact ⟨n, rfl, by omega⟩
    · refine lastOcc_some hx ?_
      rcases Nat.lt_or_ge i n with g | g
      · exact g
      · have : i = n := by omega
        subst this; contradiction

theorem lastOcc_mono {ids : Nat → Int} {x : Int} {a b : Nat} (h : a ≤ b) (hs : (lastOcc ids a x).isSome = true) : (lastOcc ids b x).isSome = true := by
  obtain ⟨j, hj⟩ := Option.isSome_iff_exists.1 hs
  have := lastOcc_lt hj
  obtain ⟨k, hk, _⟩ := lastOcc_some this.2 (n := b) (by omega)
  rw [hk]; rfl

theorem cnt_mono (ids : Nat → Int) {a b : Nat} (h : a ≤ b) : cntTo ids a ≤ cntTo ids b := by
  induction b with
  | zero => rw [Nat.le_zero.1 h]; exact Nat.le_refl _
  | succ b ih =>
    rcases Nat.lt_or_ge a (b + 1) with g | g
    · exact Nat.le_trans (ih (by omega)) (by rw [cntTo.eq_2]; omega)
    · rw [show a = b + 1 by omega]; exact Nat.le_refl _

theorem idx_push (ids : Nat → Int) (el : Nat → Nat) (hi E : Nat) (x : Int) :
    idx ids (fun i => if i = hi then E else el i) 0 (hi + 1) x = upd (idx ids el 0 hi) (ids hi) (some (ptrV E 0)) x := by
  unfold idx upd
  by_cases h : x = ids hi
  · subst h; simp [lastOcc]
  · rw [if_neg h]
    have e : lastOcc ids (hi + 1) x = lastOcc ids hi x := by rw [lastOcc, if_neg (fun g => h g.symm)]
    rw [e]
    simp only [lastOcc, Option.isSome_none, Bool.false_eq_true, if_false]
    cases hl : lastOcc ids hi x with
    | none => rfl
    | some j => have := lastOcc_lt hl; simp [show j ≠ hi by omega]

theorem cnt_push (ids : Nat → Int) (el : Nat → Nat) (hi : Nat) : (if (idx ids el 0 hi (ids hi)).isSome = true then cntTo ids hi else cntTo ids hi + 1) = cntTo ids (hi + 1) := by
  rw [cntTo]
  unfold idx firstB
  simp only [lastOcc, Option.isSome_none, Bool.false_eq_true, if_false]
  cases lastOcc ids hi (ids hi) <;> simp

theorem idx_pop (ids : Nat → Int) (el : Nat → Nat) (lo hi : Nat) (x : Int) : idx ids el (lo + 1) hi x = upd (idx ids el lo hi) (ids lo) none x := by
  unfold idx upd
  by_cases h : x = ids lo
  · subst h; simp [lastOcc]
  · have e : lastOcc ids (lo + 1) x = lastOcc ids lo x := by rw [lastOcc, if_neg (fun g => h g.symm)]
    rw [if_neg h, e]

theorem idx_some (ids : Nat → Int) (el : Nat → Nat) {lo hi : Nat} (h : lo < hi) : (idx ids el lo hi (ids lo)).isSome = firstB ids lo := by
  obtain ⟨j, hj, _⟩ := lastOcc_some (ids := ids) (x := ids lo) rfl h
  unfold idx firstB
  cases lastOcc ids lo (ids lo) <;> simp [hj]

theorem cnt_pop (ids : Nat → Int) (el : Nat → Nat) {lo hi : Nat} (h : lo < hi) :
    (if (idx ids el lo hi (ids lo)).isSome = true then cntTo ids hi - cntTo ids lo - 1 else cntTo ids hi - cntTo ids lo) = cntTo ids hi - cntTo ids (lo + 1) := by
  rw [idx_some ids el h, cntTo.eq_2]
  have := cnt_mono ids (show lo + 1 ≤ hi by omega)
  rw [cntTo] at this
  split <;> split at this <;> omega

/-- The cells of a kept reply. -/
abbrev krArr (mid : ByteArray) (id d size : Int) : Array Value :=
  #[.string mid, .int .u32 id, .int .i64 0, .int .u32 id, .bool false, .slice none 0 0, .pointer none, .slice none 0 0, .int .u64 0, .int .u64 0, .pointer none, .int .u16 0,
    .int .u64 (d % 1000000000), .int .i64 (d / 1000000000 + 90), .pointer none, .int .i64 size]

/-- The list of the kept replies: the items from lo up to hi. -/
structure LS (w : World) (C : Nat) (rep : Value) (el kr : Nat → Nat) (ka : Nat → Array Value) (lo hi : Nat) (size : Int) : Prop where
  c : ∃ nx pv, IsC w C rep nx pv ((hi : Int) - lo) size ∧ (lo < hi → nx = ptrV (el lo) 0 ∧ pv = ptrV (el (hi - 1)) 0)
  e : ∀ i, lo ≤ i → i < hi → IsE w (el i) (if i + 1 < hi then ptrV (el (i + 1)) 0 else ptrV C 1) (if lo < i then ptrV (el (i - 1)) 0 else ptrV C 1) (ptrV C 1) (.iface 70 (ptrV (kr i) 0))
  k : ∀ i, lo ≤ i → i < hi → w.heap[kr i]? = some (.cells (ka i) 72 (0, 0))
  mono : ∀ i j, lo ≤ i → i < j → j < hi → el i < el j
  gt : ∀ i, lo ≤ i → i < hi → C < el i

/-- What stays: all below C, and all rows of cells that are neither the cache nor an element. -/
structure Fr (C : Nat) (w w' : World) : Prop where
  below : Below C w w'
  cells : ∀ (k : Nat) cs t fz, w.heap[k]? = some (Obj.cells cs t fz) → t ≠ 32 → t ≠ 28 → w'.heap[k]? = some (Obj.cells cs t fz)

theorem Fr.refl (C : Nat) (w : World) : Fr C w w := ⟨Below.refl _ _, fun _ _ _ _ h _ _ => h⟩
theorem Fr.trans {C : Nat} {a b c : World} (h : Fr C a b) (g : Fr C b c) : Fr C a c := ⟨h.below.trans g.below, fun k cs t fz hk h1 h2 => g.cells k cs t fz (h.cells k cs t fz hk h1 h2) h1 h2⟩
theorem Fr.of_but {C : Nat} {p : Nat → Prop} {w w' : World} (h : But p w w') (hC : C ≤ w.heap.size) (hp : ∀ k, p k → C ≤ k ∧ ∀ cs t fz, w.heap[k]? = some (Obj.cells cs t fz) → t = 32 ∨ t = 28) : Fr C w w' :=
  ⟨⟨h.os, h.tape, h.output, h.size, fun k hk => h.block k (by omega) (fun hq => by have := (hp k hq).1; omega)⟩,
   fun k cs t fz hk h1 h2 => h.kept hk (fun hq => by rcases (hp k hq).2 cs t fz hk with e | e; exact h1 e; exact h2 e)⟩
theorem Fr.of_below {C B : Nat} {w w' : World} (h : Below B w w') (hB : w.heap.size ≤ B) (hC : C ≤ w.heap.size) : Fr C w w' :=
  ⟨h.mono (by omega), fun k cs t fz hk _ _ => (h.block k (by have := block_lt hk; omega)).trans hk⟩
theorem Fr.drew {C : Nat} {w w' : World} (h : Fr C w w') : Fr C w w'.drew := ⟨h.below.drew, h.cells⟩

theorem ne_of_obj {w : World} {a b : Nat} {o p : Obj} (ha : w.heap[a]? = some o) (hb : w.heap[b]? = some p) (h : o ≠ p) : a ≠ b := by
  rintro rfl
  rw [ha] at hb; exact h (Option.some.inj hb)

section
variable {w : World} {C : Nat} {rep : Value} {el kr : Nat → Nat} {ka : Nat → Array Value} {lo hi : Nat} {size : Int}

theorem LS.ne_c (h : LS w C rep el kr ka lo hi size) {i : Nat} (h1 : lo ≤ i) (h2 : i < hi) : C ≠ el i := by have := h.gt i h1 h2; omega
theorem LS.ne_el (h : LS w C rep el kr ka lo hi size) {i j : Nat} (h1 : lo ≤ i) (h2 : i < j) (h3 : j < hi) : el i ≠ el j := by have := h.mono i j h1 h2 h3; omega
theorem LS.kr_c (h : LS w C rep el kr ka lo hi size) {i : Nat} (h1 : lo ≤ i) (h2 : i < hi) : kr i ≠ C := by
  obtain ⟨_, _, hc, _⟩ := h.c
  exact ne_of_obj (h.k i h1 h2) hc (by simp)
theorem LS.kr_el (h : LS w C rep el kr ka lo hi size) {i j : Nat} (h1 : lo ≤ i) (h2 : i < hi) (h3 : lo ≤ j) (h4 : j < hi) : kr i ≠ el j := ne_of_obj (h.k i h1 h2) (h.e j h3 h4) (by simp)
theorem LS.lt_c (h : LS w C rep el kr ka lo hi size) : C < w.heap.size := by obtain ⟨_, _, hc, _⟩ := h.c; exact block_lt hc

theorem LS.kept {w' : World} (h : LS w C rep el kr ka lo hi size) {p : Nat → Prop} (hb : But p w w') (hc : ¬ p C) (he : ∀ i, lo ≤ i → i < hi → ¬ p (el i)) (hk : ∀ i, lo ≤ i → i < hi → ¬ p (kr i)) : LS w' C rep el kr ka lo hi size := by
  obtain ⟨nx, pv, h0, h1⟩ := h.c
  exact ⟨⟨nx, pv, hb.kept h0 hc, h1⟩, fun i a b => hb.kept (h.e i a b) (he i a b), fun i a b => hb.kept (h.k i a b) (hk i a b), h.mono, h.gt⟩

theorem LS.below {w' : World} (h : LS w C rep el kr ka lo hi size) (hb : Below w.heap.size w w') : LS w' C rep el kr ka lo hi size :=
  h.kept (p := fun _ => False) (But.of_below hb) id (fun _ _ _ => id) (fun _ _ _ => id)

theorem LS.drew (h : LS w C rep el kr ka lo hi size) : LS w.drew C rep el kr ka lo hi size := ⟨h.c, h.e, h.k, h.mono, h.gt⟩

/-- The size's cell is set. -/
theorem LS.resize (h : LS w C rep el kr ka lo hi size) (z : Int) : LS (w.setCell ⟨C, 6, none⟩ (.int .i64 z)) C rep el kr ka lo hi z := by
  have hb : But (fun k => k = C) w (w.setCell ⟨C, 6, none⟩ (.int .i64 z)) := (But.refl (fun k => k = C) w).set (b := C) rfl _
  obtain ⟨nx, pv, h0, h1⟩ := h.c
  exact ⟨⟨nx, pv, block_set h0 6 _, h1⟩, fun i a b => hb.kept (h.e i a b) (fun e => h.ne_c a b e.symm), fun i a b => hb.kept (h.k i a b) (h.kr_c a b), h.mono, h.gt⟩

theorem LS.remove (h : LS w C rep el kr ka lo hi size) (hlt : lo < hi) (hN : hi ≤ 100000) :
    Calls Ybad.prog 23 #[ptrV C 1, ptrV (el lo) 0] w fun e w' => e = .returned (.iface 70 (ptrV (kr lo) 0)) ∧ LS w' C rep el kr ka (lo + 1) hi size ∧ But (fun k => k = C ∨ ∃ i, lo ≤ i ∧ i < hi ∧ k = el i) w w' := by
  obtain ⟨nx, pv, h0, h1⟩ := h.c
  obtain ⟨rfl, rfl⟩ := h1 hlt
  have he := h.e lo (Nat.le_refl _) hlt
  rw [if_neg (Nat.lt_irrefl lo)] at he
  by_cases hs : lo + 1 < hi
  · rw [if_pos hs] at he
    have hb := h.e (lo + 1) (by omega) hs
    rw [if_pos (by omega : lo < lo + 1)] at hb
    refine (Remove_front C (el lo) (el (lo + 1)) rep _ _ _ _ _ _ _ (by omega) (by omega) w (h.ne_c (Nat.le_refl _) hlt) (h.ne_c (by omega) hs) (h.ne_el (Nat.le_refl _) (by omega) hs) h0 he hb).mono ?_
    rintro e w' ⟨rfl, k1, k2, k3⟩
    have hk : ∀ i, lo + 1 < i → i < hi → ¬ (el i = C ∨ el i = el lo ∨ el i = el (lo + 1)) := fun i a b => by
      rintro (e | e | e)
      · exact h.ne_c (by omega) b e.symm
      · exact h.ne_el (Nat.le_refl _) (by omega) b e.symm
      · exact h.ne_el (by omega) a b e.symm
    refine ⟨rfl, ⟨⟨_, _, by rw [show (hi : Int) - ((lo + 1 : Nat) : Int) = (hi : Int) - lo - 1 by omega]; exact k1, fun _ => ⟨rfl, rfl⟩⟩, fun i a b => ?_, fun i a b => ?_, fun i j a b c => h.mono i j (by omega) b c, fun i a b => h.gt i (by omega) b⟩, k3.mono ?_⟩
    · by_cases e : i = lo + 1
      · subst e
        rw [if_neg (Nat.lt_irrefl (lo + 1))]
        exact k2
      · have := h.e i (by omega) b
        rw [if_pos (by omega : lo < i)] at this
        rw [if_pos (by omega : lo + 1 < i)]
        exact k3.kept this (hk i (by omega) b)
    · refine k3.kept (h.k i (by omega) b) ?_
      rintro (e | e | e)
      · exact h.kr_c (by omega) b e
      · exact h.kr_el (by omega) b (Nat.le_refl _) hlt e
      · exact h.kr_el (by omega) b (by omega) hs e
    · rintro k (e | e | e)
      · exact .inl e
      · exact .inr ⟨lo, Nat.le_refl _, hlt, e⟩
      · exact .inr ⟨lo + 1, by omega, hs, e⟩
  · rw [if_neg hs] at he
    have hl : hi - 1 = lo := by omega
    rw [hl] at h0
    refine (Remove_only C (el lo) rep _ _ _ (by omega) (by omega) w (h.ne_c (Nat.le_refl _) hlt) h0 he).mono ?_
    rintro e w' ⟨rfl, k1, k3⟩
    refine ⟨rfl, ⟨⟨_, _, by rw [show (hi : Int) - ((lo + 1 : Nat) : Int) = (hi : Int) - lo - 1 by omega]; exact k1, fun h => by omega⟩, fun i a b => by omega, fun i a b => by omega, fun i j a b c => by omega, fun i a b => by omega⟩, k3.mono ?_⟩
    rintro k (e | e)
    · exact .inl e
    · exact .inr ⟨lo, Nat.le_refl _, hlt, e⟩

theorem LS.push {K : Nat} (h : LS w C rep el kr ka 0 hi size) (hlt : 0 < hi) (hN : hi ≤ 100000) (hK : w.heap[K]? = some (.cells (ka hi) 72 (0, 0))) :
    Calls Ybad.prog 14 #[ptrV C 1, .iface 70 (ptrV K 0)] w fun e w' => ∃ E, w.heap.size ≤ E ∧ e = .returned (ptrV E 0) ∧ LS w' C rep (fun i => if i = hi then E else el i) (fun i => if i = hi then K else kr i) ka 0 (hi + 1) size ∧ But (fun k => k = C ∨ ∃ i, 0 ≤ i ∧ i < hi ∧ k = el i) w w' := by
  obtain ⟨nx, pv, h0, h1⟩ := h.c
  obtain ⟨rfl, rfl⟩ := h1 hlt
  have hlast : hi - 1 < hi := by omega
  have ha := h.e (hi - 1) (Nat.zero_le _) hlast
  rw [if_neg (by omega)] at ha
  refine (push_more C K (el (hi - 1)) (el 0) rep _ _ _ _ _ (by omega) (by omega) w (h.ne_c (Nat.zero_le _) hlast) h0 ha).mono ?_
  rintro e w' ⟨E, hE, rfl, k1, k2, k4, k3⟩
  have hlE : ∀ i, i < hi → el i < E := fun i hi' => Nat.lt_of_lt_of_le (block_lt (h.e i (Nat.zero_le _) hi')) hE
  refine ⟨E, hE, rfl, ⟨⟨_, _, by rw [show ((hi + 1 : Nat) : Int) - ((0 : Nat) : Int) = (hi : Int) - ((0 : Nat) : Int) + 1 by omega]; exact k1, fun _ => ⟨by rw [if_neg (by omega)], by rw [Nat.add_sub_cancel, if_pos rfl]⟩⟩, fun i a b => ?_, fun i a b => ?_, fun i j a b c => ?_, fun i a b => ?_⟩, k3.mono ?_⟩
  · by_cases e : i = hi
    · subst e
      rw [if_pos rfl, if_neg (by omega), if_pos hlt, if_neg (by omega), if_pos rfl]
      exact k2
    · by_cases e2 : i = hi - 1
      · subst e2
        rw [if_neg e, if_pos (by omega), if_pos (by omega), if_neg e, show (if hi - 1 - 1 = hi then E else el (hi - 1 - 1)) = el (hi - 1 - 1) by rw [if_neg (by omega)]]
        exact k4
      · have g := h.e i a (by omega)
        rw [if_pos (by omega : i + 1 < hi)] at g
        rw [if_neg e, if_pos (by omega), if_neg (by omega), if_neg e, show (if i - 1 = hi then E else el (i - 1)) = el (i - 1) by rw [if_neg (by omega)]]
        refine k3.kept g ?_
        rintro (e | e)
        · exact h.ne_c a (by omega) e.symm
        · exact h.ne_el a (by omega : i < hi - 1) hlast e
  · by_cases e : i = hi
    · subst e
      rw [if_pos rfl]
      refine k3.kept hK ?_
      rintro (e | e)
      · exact ne_of_obj hK h0 (by simp) e
      · exact ne_of_obj hK ha (by simp) e
    · rw [if_neg e]
      refine k3.kept (h.k i a (by omega)) ?_
      rintro (e | e)
      · exact h.kr_c a (by omega) e
      · exact h.kr_el a (by omega) (Nat.zero_le _) hlast e
  · rw [if_neg (by omega)]
    by_cases e : j = hi
    · rw [if_pos e]; exact hlE i (by omega)
    · rw [if_neg e]; exact h.mono i j a b (by omega)
  · by_cases e : i = hi
    · rw [if_pos e]; have := h.lt_c; omega
    · rw [if_neg e]; exact h.gt i a (by omega)
  · rintro k (e | e)
    · exact .inl e
    · exact .inr ⟨hi - 1, Nat.zero_le _, hlast, e⟩

theorem LS.push0 {K : Nat} (hc : IsC w C rep (.pointer none) (.pointer none) 0 size) (hK : w.heap[K]? = some (.cells (ka 0) 72 (0, 0))) :
    Calls Ybad.prog 14 #[ptrV C 1, .iface 70 (ptrV K 0)] w fun e w' => ∃ E, w.heap.size ≤ E ∧ e = .returned (ptrV E 0) ∧ LS w' C rep (fun i => if i = 0 then E else el i) (fun i => if i = 0 then K else kr i) ka 0 (0 + 1) size ∧ But (fun k => k = C ∨ ∃ i, 0 ≤ i ∧ i < 0 ∧ k = el i) w w' := by
  refine (push_raw C K rep size w hc).mono ?_
  rintro e w' ⟨E, hE, rfl, k1, k2, k3⟩
  have := block_lt hc
  refine ⟨E, hE, rfl, ⟨⟨_, _, k1, fun _ => ⟨rfl, rfl⟩⟩, fun i a b => ?_, fun i a b => ?_, fun i j a b c => by omega, fun i a b => ?_⟩, k3.mono fun k e => .inl e⟩
  · obtain rfl : i = 0 := by omega
    exact k2
  · obtain rfl : i = 0 := by omega
    exact k3.kept hK (fun e => ne_of_obj hK hc (by simp) e)
  · obtain rfl : i = 0 := by omega
    show C < E
    omega
end
end Go.Proofs.YbulkcamsDoor.KP
