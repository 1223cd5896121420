import Derived.Test.YbulkddgLedger
import Derived.Deep.LoopGhost
import Derived.Deep.QuietTactic
import Derived.Deep.RegionWith
import Derived.BigQuiet
import Derived.Deep.Draws
import Derived.Lib.EndianBits
namespace Go.Proofs.Ybulkddg
open Go.RowKit
open Go.WideShapes (add_plain)
set_option linter.unusedVariables false

/-- slices.Equal at []byte: two slices of one length whose cells hold the same numbers. -/
theorem equal_same (a1 a2 : Option Addr) (n c1 c2 : Nat) (zs : List Int) (w : World) (hn : n ≤ 1024)
    (hc : 0 < n → ∃ b1 o1 b2 o2, a1 = some ⟨b1, o1, none⟩ ∧ a2 = some ⟨b2, o2, none⟩ ∧ ∀ j, j < n → w.cell? ⟨b1, o1 + j, none⟩ = some (.int .u8 (zs.getD j 0)) ∧ w.cell? ⟨b2, o2 + j, none⟩ = some (.int .u8 (zs.getD j 0))) :
    Calls Yba.prog 13 #[.slice a1 n c1, .slice a2 n c2] w fun e w' => e = .returned (.bool true) ∧ ∃ q, w' = w.drewN q := by
  have HC : Hid _ := hc
  clear hc
  go_enter Yba.func13, Yba.ntmps13
  go_wp2
  go_loopg [13] n (fun g s13 wr => ∃ k q : Nat, k ≤ n ∧ n - k ≤ g ∧ s13 = .int .i64 k ∧ wr = w.drewN q)
  case atStart => exact ⟨0, 0, Nat.zero_le _, by omega, rfl, rfl⟩
  case round =>
    obtain ⟨k, q, hk, hg, rfl, rfl⟩ := hrel
    by_cases hlt : k < n
    · obtain ⟨b1, o1, b2, o2, rfl, rfl, hcc⟩ := HC.out (by omega)
      obtain ⟨g1, g2⟩ := hcc k hlt
      clear hcc
      go_wp2_with fail
      go_quiet (fail)
      go_wp2
      go_roundg (n - (k + 1))
      case measure => omega
      case rel => exact ⟨k + 1, _, by omega, by omega, by go_num, rfl⟩
    · go_wp2
      go_ret
      exact ⟨rfl, q, rfl⟩

set_option maxHeartbeats 2000000 in
set_option maxRecDepth 100000 in
theorem u64_at (g o n c : Nat) (v : Int) (h0 : 0 ≤ v) (hv : v < 18446744073709551616) (w : World) (hn : 8 ≤ n) (hc : ∀ j u, (le8 v)[j]? = some u → w.cell? ⟨g, o + j, none⟩ = some u) :
    Calls Yba.prog 19 #[.agg #[], .slice (some ⟨g, o, none⟩) n c] w fun e w' => e = .returned (.int .u64 v) ∧ ∃ q, w' = (w.alloc (.cells #[] 57)).drewN q := by
  have d0 : (w.alloc (.cells #[] 57)).cell? ⟨g, o, none⟩ = some (.int .u8 (v % 256)) := Lib.cell?_alloc_some (.cells #[] 57) (hc 0 _ rfl)
  have d1 := Lib.cell?_alloc_some (.cells #[] 57) (hc 1 _ rfl)
  have d2 := Lib.cell?_alloc_some (.cells #[] 57) (hc 2 _ rfl)
  have d3 := Lib.cell?_alloc_some (.cells #[] 57) (hc 3 _ rfl)
  have d4 := Lib.cell?_alloc_some (.cells #[] 57) (hc 4 _ rfl)
  have d5 := Lib.cell?_alloc_some (.cells #[] 57) (hc 5 _ rfl)
  have d6 := Lib.cell?_alloc_some (.cells #[] 57) (hc 6 _ rfl)
  have d7 := Lib.cell?_alloc_some (.cells #[] 57) (hc 7 _ rfl)
  clear hc
  obtain ⟨b0, e0⟩ : ∃ b, b = v % 256 := ⟨_, rfl⟩
  obtain ⟨b1, e1⟩ : ∃ b, b = v / 256 % 256 := ⟨_, rfl⟩
  obtain ⟨b2, e2⟩ : ∃ b, b = v / 65536 % 256 := ⟨_, rfl⟩
  obtain ⟨b3, e3⟩ : ∃ b, b = v / 16777216 % 256 := ⟨_, rfl⟩
  obtain ⟨b4, e4⟩ : ∃ b, b = v / 4294967296 % 256 := ⟨_, rfl⟩
  obtain ⟨b5, e5⟩ : ∃ b, b = v / 1099511627776 % 256 := ⟨_, rfl⟩
  obtain ⟨b6, e6⟩ : ∃ b, b = v / 281474976710656 % 256 := ⟨_, rfl⟩
  obtain ⟨b7, e7⟩ : ∃ b, b = v / 72057594037927936 := ⟨_, rfl⟩
  rw [← e0] at d0; rw [← e1] at d1; rw [← e2] at d2; rw [← e3] at d3
  rw [← e4] at d4; rw [← e5] at d5; rw [← e6] at d6; rw [← e7] at d7
  have h00 : 0 ≤ b0 ∧ b0 < 256 := by omega
  have h11 : 0 ≤ b1 ∧ b1 < 256 := by omega
  have h22 : 0 ≤ b2 ∧ b2 < 256 := by omega
  have h33 : 0 ≤ b3 ∧ b3 < 256 := by omega
  have h44 : 0 ≤ b4 ∧ b4 < 256 := by omega
  have h55 : 0 ≤ b5 ∧ b5 < 256 := by omega
  have h66 : 0 ≤ b6 ∧ b6 < 256 := by omega
  have h77 : 0 ≤ b7 ∧ b7 < 256 := by omega
  have HV : Hid (v = b0 + b1 * 256 + b2 * 65536 + b3 * 16777216 + b4 * 4294967296 + b5 * 1099511627776 + b6 * 281474976710656 + b7 * 72057594037927936) := by unfold Hid; omega
  clear e0 e1 e2 e3 e4 e5 e6 e7
  have q0 : 0 < n := by omega
  have q1 : (1 : Int) < (n : Int) := by omega
  have q2 : (2 : Int) < (n : Int) := by omega
  have q3 : (3 : Int) < (n : Int) := by omega
  have q4 : (4 : Int) < (n : Int) := by omega
  have q5 : (5 : Int) < (n : Int) := by omega
  have q6 : (6 : Int) < (n : Int) := by omega
  have q7 : (7 : Int) < (n : Int) := by omega
  go_enter Yba.func19, Yba.ntmps19
  go_wp2
  go_quiet (fail)
  go_wp2
  go_ret
  refine ⟨?_, _, rfl⟩
  simp (disch := omega) only [u64_or8, u64_or16, u64_or24, u64_or32, u64_or40, u64_or48, u64_or56]
  rw [HV.out]
  rfl
end Go.Proofs.Ybulkddg
