import Derived.Test.YbulkcajmBMBuild
import Derived.Test.YbulkcajmMapFn
namespace Go.Proofs.Ybulkcajm.BM
open Go.RowKit
open MapFn (MapIs upd upd_same upd_other)
set_option maxRecDepth 10000
set_option linter.unusedSimpArgs false
set_option linter.unusedVariables false

theorem run_conv (w : World) (v : Value) (s : ByteArray) (h : Bytes w v s) : (convert 39 9 v).run Yba.prog w = .ok (.string s) w := by
  rcases h with ⟨rfl, rfl⟩ | ⟨g, rfl, rfl⟩ | ⟨g, c, rfl, rfl, h⟩
  · rw [run_convert_bytes_string w 39 9 5 none 0 0 Yba.underlying39 Yba.underlying5 Yba.underlying9]
    simp [Conv.bytesToString]
  · rw [run_convert_bytes_string w 39 9 5 _ 0 0 Yba.underlying39 Yba.underlying5 Yba.underlying9]
    have := run_bytesToString (P := Yba.prog) w ⟨g, 0, none⟩ 0 0 [] (run_loadCells_list w ⟨g, 0, none⟩ [] (by simp))
    exact this
  · rw [run_convert_bytes_string w 39 9 5 _ 1 1 Yba.underlying39 Yba.underlying5 Yba.underlying9]
    have := run_bytesToString (P := Yba.prog) w ⟨g, 0, none⟩ 1 1 [(c.toNat : Int)] (run_loadCells_list w ⟨g, 0, none⟩ [.int .u8 c.toNat] (by
      intro j v hj
      match j, hj with
      | 0, hj => simp at hj; subst hj; rw [Addr.add_lit, block_cell h]; rfl))
    rw [this]
    simp [ByteArray.push, ByteArray.empty, ByteArray.emptyWithCapacity]
    rfl

/-! ### The plain side -/
section
variable (th nx ak nm : Nat → Int) (now : Int) (mp : Nat → Nat) (n : Nat)

def inB (j : Nat) : Bool := decide (th j ≤ now) && decide (now < nx j)
def ins (k : Nat) : List Nat := (List.range k).filter (inB th nx now)
def ptr (j : Nat) : Value := .pointer (some ⟨mp j, 0, none⟩)
def topB (j : Nat) : Bool := (List.range n).all fun i => !(inB th nx now i && decide (keyN (ak i) = keyN (ak j)) && decide (nm j < nm i))
def res : List Nat := (ins th nx now n).filter (topB th nx ak nm now n)

theorem ins_succ (k : Nat) : ins th nx now (k + 1) = ins th nx now k ++ (if inB th nx now k then [k] else []) := by
  unfold ins
  rw [List.range_succ, List.filter_append]
  congr 1
  simp only [List.filter_cons, List.filter_nil]

theorem ins_le (k : Nat) : (ins th nx now k).length ≤ k := by
  have := List.length_filter_le (inB th nx now) (List.range k)
  simpa [ins] using this

/-- What the map of the highest numbers holds when the first k are seen. -/
def Hi (w : World) (k : Nat) (f : ByteArray → Option Value) : Prop :=
  ∀ s, (f s = none ∧ ∀ j, j < k → inB th nx now j = true → akiS (ak j) ≠ s) ∨
    ∃ r x, f s = some (.pointer (some ⟨r, 0, none⟩)) ∧ Big w r x ∧ 0 ≤ x ∧ (∃ j, j < k ∧ inB th nx now j = true ∧ akiS (ak j) = s ∧ nm j = x) ∧ ∀ j, j < k → inB th nx now j = true → akiS (ak j) = s → nm j ≤ x

variable {th nx ak nm now mp n}

theorem Hi.start (w : World) : Hi th nx ak nm now w 0 (fun _ => none) := fun s => .inl ⟨rfl, fun j hj => by omega⟩

theorem Hi.skip {w : World} {k : Nat} {f : ByteArray → Option Value} (h : Hi th nx ak nm now w k f) (hk : inB th nx now k = false) : Hi th nx ak nm now w (k + 1) f := by
  intro s
  rcases h s with ⟨h1, h2⟩ | ⟨r, x, h1, h2, h0, ⟨j, hj, h3, h4, h5⟩, h6⟩
  · refine .inl ⟨h1, fun j hj hi => ?_⟩
    rcases Nat.lt_or_ge j k with g | g
    · exact h2 j g hi
    · have : j = k := by omega
      subst this; rw [hk] at hi; cases hi
  · refine .inr ⟨r, x, h1, h2, h0, ⟨j, by omega, h3, h4, h5⟩, fun i hi hin => ?_⟩
    rcases Nat.lt_or_ge i k with g | g
    · exact h6 i g hin
    · have : i = k := by omega
      subst this; rw [hk] at hin; cases hin

theorem Hi.stay {w : World} {k r : Nat} {x : Int} {f : ByteArray → Option Value} (h : Hi th nx ak nm now w k f) (hf : f (akiS (ak k)) = some (.pointer (some ⟨r, 0, none⟩))) (hb : Big w r x) (hx : nm k ≤ x) : Hi th nx ak nm now w (k + 1) f := by
  intro s
  rcases h s with ⟨h1, h2⟩ | ⟨r', x', h1, h2, h0, ⟨j, hj, h3, h4, h5⟩, h6⟩
  · refine .inl ⟨h1, fun j hj hi => ?_⟩
    rcases Nat.lt_or_ge j k with g | g
    · exact h2 j g hi
    · have : j = k := by omega
      subst this
      intro e; rw [e, h1] at hf; cases hf
  · refine .inr ⟨r', x', h1, h2, h0, ⟨j, by omega, h3, h4, h5⟩, fun i hi hin hs => ?_⟩
    rcases Nat.lt_or_ge i k with g | g
    · exact h6 i g hin hs
    · have : i = k := by omega
      subst this
      rw [hs, h1] at hf
      have e : r' = r := by injection hf with e; injection e with e; injection e with e; injection e
      subst e
      rw [h2.inj hb]; exact hx

theorem Hi.put {w : World} {k r : Nat} {f : ByteArray → Option Value} (h : Hi th nx ak nm now w k f) (hk : inB th nx now k = true) (hb : Big w r (nm k)) (h0k : 0 ≤ nm k)
    (hmax : ∀ j, j < k → inB th nx now j = true → akiS (ak j) = akiS (ak k) → nm j ≤ nm k) : Hi th nx ak nm now w (k + 1) (upd f (akiS (ak k)) (some (.pointer (some ⟨r, 0, none⟩)))) := by
  intro s
  by_cases e : s = akiS (ak k)
  · subst e
    rw [upd_same]
    refine .inr ⟨r, nm k, rfl, hb, h0k, ⟨k, by omega, hk, rfl, rfl⟩, fun j hj hin hs => ?_⟩
    rcases Nat.lt_or_ge j k with g | g
    · exact hmax j g hin hs
    · have : j = k := by omega
      subst this; exact Int.le_refl _
  · rw [upd_other _ _ e]
    rcases h s with ⟨h1, h2⟩ | ⟨r', x', h1, h2, h0, ⟨j, hj, h3, h4, h5⟩, h6⟩
    · refine .inl ⟨h1, fun j hj hi => ?_⟩
      rcases Nat.lt_or_ge j k with g | g
      · exact h2 j g hi
      · have : j = k := by omega
        subst this; exact fun e' => e e'.symm
    · refine .inr ⟨r', x', h1, h2, h0, ⟨j, by omega, h3, h4, h5⟩, fun i hi hin hs => ?_⟩
      rcases Nat.lt_or_ge i k with g | g
      · exact h6 i g hin hs
      · have : i = k := by omega
        subst this; exact absurd hs.symm e

theorem aki_key (a b : Int) : akiS a = akiS b ↔ keyN a = keyN b := by
  have n1 : (ByteArray.empty : ByteArray) ≠ ⟨#[1]⟩ := by decide
  have n2 : (ByteArray.empty : ByteArray) ≠ ⟨#[2]⟩ := by decide
  have n3 : (⟨#[1]⟩ : ByteArray) ≠ ⟨#[2]⟩ := by decide
  unfold akiS keyN
  by_cases h1 : a % 4 ≤ 1 <;> by_cases h2 : b % 4 ≤ 1 <;> by_cases h3 : a % 4 = 2 <;> by_cases h4 : b % 4 = 2 <;>
    simp [h1, h2, h3, h4, n1, n2, n3, n1.symm, n2.symm, n3.symm]

/-- At an in-time j the map's number at j's key is nm j just if j is at the top. -/
theorem Hi.top {w : World} {f : ByteArray → Option Value} (h : Hi th nx ak nm now w n f) {j : Nat} (hj : j < n) (hin : inB th nx now j = true) :
    ∃ r x, f (akiS (ak j)) = some (.pointer (some ⟨r, 0, none⟩)) ∧ Big w r x ∧ 0 ≤ x ∧ (cmpN (nm j) x = 0 ↔ topB th nx ak nm now n j = true) := by
  rcases h (akiS (ak j)) with ⟨h1, h2⟩ | ⟨r, x, h1, h2, h0, ⟨i, hi, h3, h4, h5⟩, h6⟩
  · exact absurd rfl (h2 j hj hin)
  · refine ⟨r, x, h1, h2, h0, ?_⟩
    have hle := h6 j hj hin rfl
    constructor
    · intro hc
      have hx : nm j = x := by
        unfold cmpN at hc
        split at hc
        · omega
        · split at hc
          · omega
          · omega
      unfold topB
      rw [List.all_eq_true]
      intro i hi
      have hin' : i < n := by simpa using hi
      cases hb : inB th nx now i
      · simp
      · by_cases hk : keyN (ak i) = keyN (ak j)
        · have := h6 i hin' hb ((aki_key _ _).2 hk)
          simp [hk]; omega
        · simp [hk]
    · intro ht
      unfold topB at ht
      rw [List.all_eq_true] at ht
      have := ht i (by simpa using hi)
      simp [h3, (aki_key _ _).1 h4] at this
      unfold cmpN
      rw [if_neg (by omega), if_neg (by omega)]
end
end Go.Proofs.Ybulkcajm.BM
