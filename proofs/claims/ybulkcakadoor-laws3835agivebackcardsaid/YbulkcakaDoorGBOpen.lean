import Derived.Test.YbulkcakaDoorGBWalks
import Derived.Test.YbulkcakaDoorTie
import Derived.Test.YbulkcakaDoorCards
import Derived.ProofKit
import Derived.LaidMore
import Derived.OpenShut
import Derived.ChangeOld
import Derived.Below
import Derived.Stop.Joined
import Derived.SevenTiedAt
import Derived.Lay
namespace Go.Proofs.YbulkcakaDoor.GB
open Go.ChangeShapes Go.WideShapes Go.ChangeAt Go.RowKit
set_option linter.unusedVariables false
set_option maxRecDepth 10000

theorem own : ownKnob Ybad.prog.godebug = none := by kernel_rfl
theorem laidOut : laidOutB Ybad.prog = true := by kernel_rfl
theorem cells24 : Ybad.prog.cellsOf 24 = 12 := by kernel_rfl
theorem cells9 : Ybad.prog.cellsOf 9 = 1 := by kernel_rfl
theorem cells2 : Ybad.prog.cellsOf 2 = 1 := by kernel_rfl
theorem cells3 : Ybad.prog.cellsOf 3 = 1 := by kernel_rfl
theorem cells4 : Ybad.prog.cellsOf 4 = 1 := by kernel_rfl
theorem cells21 : Ybad.prog.cellsOf 21 = 1 := by kernel_rfl
theorem cells22 : Ybad.prog.cellsOf 22 = 1 := by kernel_rfl

theorem open_c {H : Type} {enc : TypeId × Value → H} {W : World} {base : Nat} {sp : Nat → Bool} {held : Bool} {fuel : Nat} {cs : List Value} {x : DataW H × List MemPlace}
    (h : DataW.trod enc Ybad.prog W base sp held fuel 24 cs = some x) :
    ∃ (b mx pr : Int) (ng : Bool) (sm : Int) (dg : ByteArray) (ex fl : Int) (fe ft : Bool) (gb : Int) (og : Bool),
      cs = [.int .i64 b, .int .i64 mx, .int .i64 pr, .bool ng, .int .u64 sm, .string dg, .int .i32 ex, .int .i64 fl, .bool fe, .bool ft, .int .i64 gb, .bool og] ∧ dg.size ≤ maxLen := by
  obtain ⟨xs, k, hk, hxy, hlen, hxl, hf⟩ := DataW.trod_struct Ybad.underlying24 h
  rw [cells24] at hlen
  match xs, hxl, cs, hlen with
  | [y0, y1, y2, y3, y4, y5, y6, y7, y8, y9, y10, y11], _, [v0, v1, v2, v3, v4, v5, v6, v7, v8, v9, v10, v11], _ =>
    have g0 := hf 0 _ rfl
    have g1 := hf 1 _ rfl
    have g2 := hf 2 _ rfl
    have g3 := hf 3 _ rfl
    have g4 := hf 4 _ rfl
    have g5 := hf 5 _ rfl
    have g6 := hf 6 _ rfl
    have g7 := hf 7 _ rfl
    have g8 := hf 8 _ rfl
    have g9 := hf 9 _ rfl
    have g10 := hf 10 _ rfl
    have g11 := hf 11 _ rfl
    simp [cells9, cells2, cells3, cells4, cells21, cells22] at g0 g1 g2 g3 g4 g5 g6 g7 g8 g9 g10 g11
    obtain ⟨z0, e0, -, -⟩ := DataW.trod_int Ybad.underlying3 g0
    obtain ⟨z1, e1, -, -⟩ := DataW.trod_int Ybad.underlying3 g1
    obtain ⟨z2, e2, -, -⟩ := DataW.trod_int Ybad.underlying3 g2
    obtain ⟨z3, e3, -⟩ := DataW.trod_bool Ybad.underlying4 g3
    obtain ⟨z4, e4, -, -⟩ := DataW.trod_int Ybad.underlying22 g4
    obtain ⟨z5, e5, -, w5⟩ := DataW.trod_string Ybad.underlying9 g5
    obtain ⟨z6, e6, -, -⟩ := DataW.trod_int Ybad.underlying21 g6
    obtain ⟨z7, e7, -, -⟩ := DataW.trod_int Ybad.underlying3 g7
    obtain ⟨z8, e8, -⟩ := DataW.trod_bool Ybad.underlying4 g8
    obtain ⟨z9, e9, -⟩ := DataW.trod_bool Ybad.underlying4 g9
    obtain ⟨z10, e10, -, -⟩ := DataW.trod_int Ybad.underlying2 g10
    obtain ⟨z11, e11, -⟩ := DataW.trod_bool Ybad.underlying4 g11
    simp at e0 e1 e2 e3 e4 e5 e6 e7 e8 e9 e10 e11
    subst e0; subst e1; subst e2; subst e3; subst e4; subst e5; subst e6; subst e7; subst e8; subst e9; subst e10; subst e11
    exact ⟨z0, z1, z2, z3, z4, z5, z6, z7, z8, z9, z10, z11, rfl, w5⟩
end Go.Proofs.YbulkcakaDoor.GB
