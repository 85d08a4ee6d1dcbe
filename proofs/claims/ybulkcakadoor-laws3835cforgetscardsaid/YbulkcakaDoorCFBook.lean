import Derived.Test.YbulkcakaDoorRows
import Derived.Test.YbulkcakaDoorMapFn
import Derived.Test.YbulkcakaDoorExt
import Derived.WalkKit
import Derived.WalkSpells
import Derived.WalkLawsBesides
import Derived.BigQuiet
namespace Go.Proofs.YbulkcakaDoor.CF
open Go.RowKit Ext
open MapFn (MapIs upd upd_same upd_other)
set_option maxRecDepth 10000
set_option linter.unusedSimpArgs false
set_option linter.unusedVariables false

abbrev okS (s : ByteArray) : Prop := s.size ≤ maxLen

theorem block_cell {w : World} {a : Nat} {cs : Array Value} {t : TypeId} {fz : Nat × Nat} (h : w.heap[a]? = some (.cells cs t fz)) (i : Nat) : w.cell? ⟨a, i, none⟩ = cs[i]? := by simp [World.cell?, h]
theorem block_frozen {w : World} {a : Nat} {cs : Array Value} {t : TypeId} (h : w.heap[a]? = some (.cells cs t (0, 0))) (i : Nat) : w.frozen? ⟨a, i, none⟩ = false := by simp [World.frozen?, h]
theorem block_set {w : World} {a : Nat} {cs : Array Value} {t : TypeId} {fz : Nat × Nat} (h : w.heap[a]? = some (.cells cs t fz)) (i : Nat) (v : Value) : (w.setCell ⟨a, i, none⟩ v).heap[a]? = some (.cells (cs.setIfInBounds i v) t fz) := by
  simp [World.setCell, Array.getElem?_modify, h]
theorem block_lt {w : World} {a : Nat} {o : Obj} (h : w.heap[a]? = some o) : a < w.heap.size := (Array.getElem?_eq_some_iff.1 h).1

/-- Of the blocks that were there, all but the book's own eight are as they were. -/
structure Frame (B : Nat) (w w' : World) : Prop where
  os : w'.os = w.os
  tape : w'.tape = w.tape
  output : w'.output = w.output
  size : w.heap.size ≤ w'.heap.size
  block : ∀ k, k < w.heap.size → (k < B ∨ B + 8 ≤ k) → w'.heap[k]? = w.heap[k]?

theorem Frame.refl (B : Nat) (w : World) : Frame B w w := ⟨rfl, rfl, rfl, Nat.le_refl _, fun _ _ _ => rfl⟩
theorem Frame.trans {B : Nat} {a b c : World} (h : Frame B a b) (k : Frame B b c) : Frame B a c :=
  ⟨k.os.trans h.os, k.tape.trans h.tape, k.output.trans h.output, Nat.le_trans h.size k.size, fun i hi hb => (k.block i (Nat.lt_of_lt_of_le hi h.size) hb).trans (h.block i hi hb)⟩
theorem Frame.of_below {B : Nat} {w w' : World} (h : Below w.heap.size w w') : Frame B w w' := ⟨h.os, h.tape, h.output, h.size, fun k hk _ => h.block k hk⟩
theorem Frame.setBlock {B : Nat} {w w' : World} (h : Frame B w w') {b : Nat} (h0 : B ≤ b) (h1 : b < B + 8) (o : Obj) : Frame B w (ChangeMaps.setBlock w' b o) :=
  h.trans ⟨rfl, rfl, rfl, by rw [MapFn.setBlock_size]; exact Nat.le_refl _, fun c _ hc => MapFn.setBlock_other _ _ _ (by omega)⟩
theorem Frame.setCell {B : Nat} {w w' : World} (h : Frame B w w') {p : Addr} (h0 : B ≤ p.block) (h1 : p.block < B + 8) (v : Value) : Frame B w (w'.setCell p v) :=
  h.trans ⟨rfl, rfl, rfl, by simp, fun c _ hc => Below.heap_setCell _ _ _ _ (by omega)⟩
theorem Frame.drewN {B : Nat} {w w' : World} (h : Frame B w w') (q : Nat) : Frame B w (w'.drewN q) := ⟨h.os, h.tape, h.output, h.size, h.block⟩
theorem Frame.drew {B : Nat} {w w' : World} (h : Frame B w w') : Frame B w w'.drew := ⟨h.os, h.tape, h.output, h.size, h.block⟩
theorem Frame.alloc {B : Nat} {w w' : World} (h : Frame B w w') (o : Obj) : Frame B w (w'.alloc o) := h.trans (Frame.of_below ((Below.refl _ _).alloc (Nat.le_refl _) _))
theorem Frame.below {B : Nat} {w w' : World} (h : Frame B w w') (hB : B ≤ w.heap.size) : Below B w w' := ⟨h.os, h.tape, h.output, h.size, fun k hk => h.block k (by omega) (.inl hk)⟩
theorem Frame.cell {B : Nat} {w w' : World} (h : Frame B w w') {p : Addr} {v : Value} (hc : w.cell? p = some v) (hp : p.block < B ∨ B + 8 ≤ p.block) : w'.cell? p = some v :=
  (World.cell?_of_block (w := w) (h.block _ (World.block_lt_of_cell? w p hc) hp)).trans hc

/-- What the book holds. -/
structure Pl where
  rq : ByteArray → Option Int
  fu : ByteArray → Option Int
  sh : ByteArray → Int
  cl : ByteArray → Bool
  nr : Nat
  nd : Nat
  nf : Nat
  nc : Nat
  ns : Nat
  tot : Int

def bookCells (B : Nat) (tot : Int) : Array Value :=
  #[.pointer (some ⟨B + 1, 0, none⟩), .map none, .map (some (B + 2)), .map none, .map (some (B + 3)), .map none, .map (some (B + 4)), .map (some (B + 5)), .int .i64 tot, .slice none 0 0,
    .map none, .pointer none, .map (some (B + 6)), .slice none 0 0, .map none, .map none, .int .i64 0, .int .i64 0, .pointer none, .slice none 0 0, .map none, .map none, .map none, .slice none 0 0, .slice none 0 0]

def ints (f : ByteArray → Option Int) : ByteArray → Option Value := fun s => (f s).map (Value.int .i64)
def shorts (f : ByteArray → Int) : ByteArray → Option Value := fun s => if 0 < f s then some (.agg #[.int .i64 (f s), .bool false]) else none

/-- A claim: a slice of one zero address. -/
def Claim (w : World) (B : Nat) (v : Value) : Prop := ∃ g, v = .slice (some ⟨g, 0, none⟩) 1 1 ∧ B + 8 ≤ g ∧ w.heap[g]? = some (.cells #[.int .u64 0, .int .u64 0, .pointer none] 66 (0, 0))

def Book (w : World) (B : Nat) (p : Pl) : Prop :=
  w.heap[B + 7]? = some (.cells (bookCells B p.tot) 89 (0, 0)) ∧
  MapIs Value.string okS w (B + 2) (ints p.rq) p.nr ∧
  (∃ du, MapIs Value.string okS w (B + 3) du p.nd) ∧
  (∃ cl, MapIs Value.string okS w (B + 4) cl p.nc ∧ ∀ s, (p.cl s = false → cl s = none) ∧ (p.cl s = true → ∃ v, cl s = some v ∧ Claim w B v)) ∧
  MapIs Value.string okS w (B + 5) (shorts p.sh) p.ns ∧
  MapIs Value.string okS w (B + 6) (ints p.fu) p.nf

theorem Claim.kept {w w' : World} {B : Nat} {v : Value} (h : Claim w B v) (hf : Frame B w w') : Claim w' B v := by
  obtain ⟨g, h1, h2, h3⟩ := h
  exact ⟨g, h1, h2, (hf.block g (block_lt h3) (.inr h2)).trans h3⟩

theorem Book.lt {w : World} {B : Nat} {p : Pl} (h : Book w B p) : B + 7 < w.heap.size := block_lt h.1

theorem Book.kept {w w' : World} {B : Nat} {p : Pl} (h : Book w B p) (hb : Below w.heap.size w w') : Book w' B p := by
  have hl := h.lt
  obtain ⟨h1, h2, ⟨du, h3⟩, ⟨cl, h4, h5⟩, h6, h7⟩ := h
  exact ⟨(hb.block _ hl).trans h1, h2.kept (hb.block _ (by omega)), ⟨du, h3.kept (hb.block _ (by omega))⟩, ⟨cl, h4.kept (hb.block _ (by omega)), fun s => ⟨(h5 s).1, fun hs => by obtain ⟨v, a, b⟩ := (h5 s).2 hs; exact ⟨v, a, b.kept (Frame.of_below hb)⟩⟩⟩,
    h6.kept (hb.block _ (by omega)), h7.kept (hb.block _ (by omega))⟩

def pl0 : Pl := ⟨fun _ => none, fun _ => none, fun _ => 0, fun _ => false, 0, 0, 0, 0, 0, 0⟩

theorem alloc_at (w : World) (o : Obj) (b : Nat) (h : b = w.heap.size) : (w.alloc o).heap[b]? = some o := by subst h; exact heap_alloc_new w o

theorem empty_at {w : World} {b : Nat} (h : w.heap[b]? = some (.map #[] 0)) : MapIs Value.string okS w b (fun _ => none) 0 :=
  ⟨#[], 0, h, rfl, MapKept.stamped_empty 0, by simp, by simp⟩

set_option maxHeartbeats 400000 in
theorem book_any (w : World) :
    Calls Ybad.prog 10 #[] w fun e w' => e = .returned (.pointer (some ⟨w.heap.size + 7, 0, none⟩)) ∧ Book w' w.heap.size pl0 ∧ Below w.heap.size w w' := by
  have hmm := @run_makeMap Ybad.prog
  go_enter Ybad.func10, Ybad.ntmps10
  go_wp2
  go_ret
  refine ⟨rfl, ⟨?_, ?_, ⟨fun _ => none, ?_⟩, ⟨fun _ => none, ?_, fun s => ⟨fun _ => rfl, fun h => by cases h⟩⟩, ?_, ?_⟩, ?_⟩
  · exact alloc_at _ _ _ (by simp)
  · exact empty_at (by rw [Below.heap_alloc _ _ _ (by simp), Below.heap_alloc _ _ _ (by simp), Below.heap_alloc _ _ _ (by simp), Below.heap_alloc _ _ _ (by simp), Below.heap_alloc _ _ _ (by simp)]; exact alloc_at _ _ _ (by simp))
  · exact empty_at (by rw [Below.heap_alloc _ _ _ (by simp), Below.heap_alloc _ _ _ (by simp), Below.heap_alloc _ _ _ (by simp), Below.heap_alloc _ _ _ (by simp)]; exact alloc_at _ _ _ (by simp))
  · exact empty_at (by rw [Below.heap_alloc _ _ _ (by simp), Below.heap_alloc _ _ _ (by simp), Below.heap_alloc _ _ _ (by simp)]; exact alloc_at _ _ _ (by simp))
  · exact empty_at (by rw [Below.heap_alloc _ _ _ (by simp), Below.heap_alloc _ _ _ (by simp)]; exact alloc_at _ _ _ (by simp))
  · exact empty_at (by rw [Below.heap_alloc _ _ _ (by simp)]; exact alloc_at _ _ _ (by simp))
  · exact ((((((((Below.refl _ _).alloc (Nat.le_refl _) _).alloc (by simp) _).alloc (by simp; omega) _).alloc (by simp; omega) _).alloc (by simp; omega) _).alloc (by simp; omega) _).alloc (by simp; omega) _).alloc (by simp; omega) _
end Go.Proofs.YbulkcakaDoor.CF
