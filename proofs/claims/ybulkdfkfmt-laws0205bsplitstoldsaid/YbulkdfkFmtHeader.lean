import Derived.Test.YbulkdfkFmtUtc
import Derived.Deep.RegionHeld3
import Derived.Deep.QuietTactic
import Derived.BigQuiet
import Derived.Deep.Draws
namespace Go.Proofs.YbulkdfkFmt
open Go.RowKit Go.Extern.Stop Go.Stop Go.Extern
set_option linter.unusedVariables false

theorem cell_of_block {w : World} {k t : Nat} {cs : Array Value} {r : Nat × Nat} (hk : w.heap[k]? = some (.cells cs t r)) (i : Nat) : w.cell? ⟨k, i, none⟩ = cs[i]? := by
  simp [World.cell?, hk]
theorem frozen_of_block {w : World} {k t : Nat} {cs : Array Value} (hk : w.heap[k]? = some (.cells cs t (0, 0))) (i : Nat) : w.frozen? ⟨k, i, none⟩ = false := by
  simp [World.frozen?, hk]

set_option maxHeartbeats 400000 in
theorem size_any (hb : Nat) (a1 a2 : Option Addr) (n1 c1 n2 c2 : Nat) (w : World) (h10 : w.cell? ⟨hb, 26, none⟩ = some (.slice a1 n1 c1)) (h11 : w.cell? ⟨hb, 27, none⟩ = some (.slice a2 n2 c2)) (b1 : n1 ≤ 1024) (b2 : n2 ≤ 1024) :
    Calls Ybaf.prog 23 #[.pointer (some ⟨hb, 0, none⟩)] w fun e w' => e = .returned (.int .i64 (54 + n1 + n2)) ∧ ∃ q, w' = w.drewN q := by
  go_enter Ybaf.func23, Ybaf.ntmps23
  go_wp2
  go_quiet (fail)
  go_wp2
  go_ret
  exact ⟨rfl, _, rfl⟩

set_option maxHeartbeats 800000 in
theorem neq53 (w : World) : (binOp .neq 53 (.agg #[.pointer none]) (.agg #[.pointer none])).run Ybaf.prog w = .ok (.bool false) w := by kernel_rfl
set_option maxHeartbeats 800000 in
theorem string_zero (w : World) (hz : w.cell? ⟨2, 0, none⟩ = some (.pointer none)) :
    Calls Ybaf.prog 25 #[.agg #[.int .u64 0, .int .u64 0, .pointer none]] w fun e w' => ∃ s, e = .returned (.string s) ∧ Below w.heap.size w w' := by
  have x1 : ∀ o o', ((w.alloc o).alloc o').cell? ⟨2, 0, none⟩ = some (.pointer none) := fun o o' => Lib.cell?_alloc_some _ (Lib.cell?_alloc_some _ hz)
  have x2 := neq53
  go_enter Ybaf.func25, Ybaf.ntmps25
  go_wp2
  go_ret
  exact ⟨_, rfl, ((Below.refl _ w).alloc (Nat.le_refl _) _).alloc (by simp) _⟩
end Go.Proofs.YbulkdfkFmt
