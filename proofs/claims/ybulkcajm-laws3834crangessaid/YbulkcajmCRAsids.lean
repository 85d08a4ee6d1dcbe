import Derived.Test.YbulkcajmRows
import Derived.WalkKit
import Derived.WalkSpells
import Derived.WalkLawsBesides
import Derived.Deep.QuietTactic
import Derived.BigQuiet
namespace Go.Proofs.Ybulkcajm.CR
open Go.RowKit

theorem info60 : (Yba.prog.info? 60).map (fun i => (i.zero, i.size, i.bytes)) = some (some (.agg #[.int .u32 0, .int .u32 0]), 2, 8) := by kernel_rfl

def pairs (z : Nat → Int) : Nat → List Value
  | 0 => []
  | k + 1 => pairs z k ++ [.int .u32 (z k), .int .u32 (z k)]

set_option maxHeartbeats 400000 in
theorem asids (mb g n : Nat) (ra : Option Addr) (file : ByteArray) (z : Nat → Int) (w : World) (hn : n ≤ 1024)
    (hr : w.cell? ⟨mb, 4, none⟩ = some (.slice ra n n)) (hra : 0 < n → ra = some ⟨g, 0, none⟩)
    (hg : g < w.heap.size)
    (h0 : ∀ j, j < n → w.cell? ⟨g, j * 3, none⟩ = some (.string file))
    (h1 : ∀ j, j < n → w.cell? ⟨g, j * 3 + 1, none⟩ = some (.int .u32 (z j)))
    (h2 : ∀ j, j < n → w.cell? ⟨g, j * 3 + 2, none⟩ = some (.slice none 0 0)) :
    Calls Yba.prog 12 #[.pointer (some ⟨mb, 0, none⟩)] w fun e w' => ∃ v, e = .returned v ∧ w'.ownsRow w.heap.size 60 2 v n (pairs z n) ∧ Below w.heap.size w w' ∧ (n = 0 → v = .slice none 0 0) := by
  obtain ⟨i0, hi, hz0, hz1, hz2⟩ := info_parts info60
  go_enter Yba.func12, Yba.ntmps12
  go_wp2
  go_loopw [3, 11] (fun v i wr => ∃ k : Nat, k ≤ n ∧ i = .int .i64 k ∧ wr.ownsRow w.heap.size 60 2 v k (pairs z k) ∧ Below w.heap.size w wr ∧ (k = 0 → v = .slice none 0 0)) (fun _ i _ => n - (intOf i).toNat)
  case atStart => exact ⟨0, Nat.zero_le _, rfl, World.ownsRow_nil _ _ _ _, Below.refl _ _, fun _ => rfl⟩
  case round =>
    obtain ⟨k, hk, rfl, hown, hnx, hnil⟩ := hrel
    by_cases hlt : k < n
    · have e := hra (by omega)
      subst e
      have c0 : wr.cell? ⟨g, k * 3, none⟩ = some (.string file) := (hnx.cell (by exact hg)).trans (h0 k hlt)
      have c1 : wr.cell? ⟨g, k * 3 + 1, none⟩ = some (.int .u32 (z k)) := (hnx.cell (by exact hg)).trans (h1 k hlt)
      have c2 : wr.cell? ⟨g, k * 3 + 2, none⟩ = some (.slice none 0 0) := (hnx.cell (by exact hg)).trans (h2 k hlt)
      clear h0 h1 h2
      go_wp2_with (at_builtin; refine wpList_append_own _ rfl _ _ 58 rfl w.heap.size 60 i0 (.agg #[.int .u32 0, .int .u32 0]) 2 8 Yba.underlying58 hi hz0 hz1 hz2 rfl (by decide) _ _ _ rfl ((hown.alloc _).alloc _) ⟨wr.heap.size + 1, 0, none⟩ 1 1 [.int .u32 (z k), .int .u32 (z k)] rfl rfl ?c1 ?c2 ?c3 ?c4 ?c5 ?_)
      case c2 => rfl
      case c3 => unfold maxLen; omega
      case c4 => omega
      case c5 => have := hnx.size; simp; omega
      intro v' w1 hown' hgrow hn'
      have hb : Below w.heap.size w w1 := (((hnx.alloc hnx.size _).alloc (by have := hnx.size; simp; omega) _).grown hgrow (by have := hnx.size; simp; omega) (fun k hk => (hown.lt k hk).1))
      clear hgrow hown hnx c0 c1 c2
      go_wp2
      go_roundw
      case rel => exact ⟨k + 1, by omega, by go_num, hown', hb, fun h => by omega⟩
      case measure => simp [intOf]; omega
    · go_wp2
      go_ret
      have e : k = n := by omega
      subst e
      exact ⟨_, rfl, hown, hnx, hnil⟩
end Go.Proofs.Ybulkcajm.CR
