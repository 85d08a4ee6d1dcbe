import Derived.WalkKit
import Derived.Deep.QuietTactic
import Derived.BigQuiet
namespace Go.Proofs.YbulkcamsDoor.Ext
open Go.RowKit

theorem hid {p : Prop} (h : p) : Hid p := h

/-- A world in which, below block B, all is as it was in w. -/
def Later (B : Nat) (w : World) : Type := { w' : World // Below B w w' }

/-- A region that draws its order, whose own operations only read and whose callees only lay new blocks: ONE walk, in the order of the text. -/
theorem wp_region_later {P : Program} (B : Nat) {id : Nat} {Q : Exit → Act → World → Prop} {a : Act} {w : World} {l : List Oper} (hm : P.follows .mixedOrders = true) (hB : Region.lexB .any l.toArray = true)
    (h : wpQuiet P l.toArray (fun w' => ∃ x : Later B w, w' = x.1) (fun a' => ∀ w', (∃ x : Later B w, w' = x.1) → Q .normal a' w') l a) : (Code.region id l.toArray true).wp P Q a w :=
  wp_region_quiet (C := fun w' => ∃ x : Later B w, w' = x.1) hm hB ⟨⟨w.drew, (Below.refl _ _).drew⟩, rfl⟩ (by simpa using h)

/-- A callee's contract at such a region. -/
theorem later_of {P : Program} {B : Nat} {w : World} {f : FuncId} {args : Array Value} {x : Later B w} {v : Value} (h : Calls P f args x.1 fun e w' => e = .returned v ∧ Below x.1.heap.size x.1 w') (hB : B ≤ w.heap.size) :
    Calls P f args x.1 fun e w'' => e = .returned v ∧ ∃ y : Later B w, w'' = y.1 :=
  h.mono fun _ w' ⟨he, hb⟩ => ⟨he, ⟨w', x.2.trans (hb.mono (Nat.le_trans hB x.2.size))⟩, rfl⟩

theorem later_same {P : Program} {B : Nat} {w : World} {f : FuncId} {args : Array Value} {x : Later B w} {v : Value} (h : Calls P f args x.1 fun e w' => e = .returned v ∧ w' = x.1) :
    Calls P f args x.1 fun e w'' => e = .returned v ∧ ∃ y : Later B w, w'' = y.1 :=
  h.mono fun _ _ ⟨he, hb⟩ => ⟨he, x, hb⟩

theorem later_drew {P : Program} {B : Nat} {w : World} {f : FuncId} {args : Array Value} {x : Later B w} {v : Value} (h : Calls P f args x.1 fun e w' => e = .returned v ∧ ∃ q, w' = x.1.drewN q) :
    Calls P f args x.1 fun e w'' => e = .returned v ∧ ∃ y : Later B w, w'' = y.1 :=
  h.mono fun _ w' ⟨he, q, hb⟩ => ⟨he, ⟨w', by subst hb; exact x.2.trans ⟨rfl, rfl, rfl, Nat.le_refl _, fun _ _ => rfl⟩⟩, rfl⟩

theorem Later.cell {B : Nat} {w : World} (x : Later B w) {p : Addr} {v : Value} (h : w.cell? p = some v) (hp : p.block < B) : x.1.cell? p = some v := (x.2.cell hp).trans h
end Go.Proofs.YbulkcamsDoor.Ext
