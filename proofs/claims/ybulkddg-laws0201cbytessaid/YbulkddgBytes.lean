import Derived.Test.YbulkddgLedger
import Derived.Deep.LoopGhost
import Derived.Deep.QuietTactic
import Derived.BigQuiet
import Derived.Deep.Draws
namespace Go.Proofs.Ybulkddg
open Go.RowKit
set_option linter.unusedVariables false

set_option maxHeartbeats 4000000 in
set_option maxRecDepth 100000 in
theorem cbytes (a0 : Option Addr) (len0 cap0 : Nat) (z0 : List Int) (h o z : Int) (w : World) (w0 : Row .u8 w a0 len0 cap0 z0) (h0 : 0 ≤ h) (hv : h < 18446744073709551616) (hlen : len0 ≤ 1024) :
    Calls Yba.prog 5 #[.slice a0 len0 cap0, .int .u64 h, .int .i64 o, .int .i64 z] w fun e w' => e = .returned (.bool true) ∧ Below w.heap.size w w' := by
  have hl : ¬ (1024 : Int) < (len0 : Int) := by omega
  go_enter Yba.func5, Yba.ntmps5
  go_wp2_with fail
  refine (clone_any a0 len0 cap0 z0 w w0 hlen).mono ?_
  rintro e w1 ⟨v1, rfl, hown1, hb1⟩
  have hs1 := hb1.size
  go_wp2_with fail
  refine (appendTo w.heap.size len0 h o z h0 hv v1 _ _ (hown1.alloc _) (by simp; omega) hlen).mono ?_
  rintro e w2 ⟨v2, rfl, hown2, hb2, hk2⟩
  have hB : Below w.heap.size w w2 := (hb1.alloc (by omega) _).trans hb2
  clear hown1 hb1 hb2 hk2
  obtain ⟨g, cap, hv2, hcell, hout⟩ : ∃ g cap, v2 = .slice (some ⟨g, 0, none⟩) (len0 + 24) cap ∧ (∀ j, j < len0 → w2.cell? ⟨g, j, none⟩ = some (.int .u8 (z0.getD j 0))) ∧ ∀ j u, (le8 h ++ le8 (IntKind.u64.wrap o) ++ le8 (IntKind.u64.wrap z))[j]? = some u → w2.cell? ⟨g, len0 + j, none⟩ = some u := out_cells w0 hown2
  rw [hv2]
  clear hown2 hv2
  have HC : Hid (∀ j, j < len0 → w2.cell? ⟨g, j, none⟩ = some (.int .u8 (z0.getD j 0))) := hcell
  have HO : Hid (∀ j u, (le8 h ++ le8 (IntKind.u64.wrap o) ++ le8 (IntKind.u64.wrap z))[j]? = some u → w2.cell? ⟨g, len0 + j, none⟩ = some u) := hout
  clear hcell hout
  go_wp2_with fail
  go_loopg [13] len0 (fun gh s13 wr => ∃ k q : Nat, k ≤ len0 ∧ len0 - k ≤ gh ∧ s13 = .int .i64 k ∧ wr = w2.drewN q)
  case atStart => exact ⟨0, 0, Nat.zero_le _, by omega, rfl, rfl⟩
  case round =>
    obtain ⟨k, q, hk, hg, rfl, rfl⟩ := hrel
    by_cases hlt : k < len0
    · obtain ⟨b, off, rfl, hbw, hc⟩ := w0.at (by omega)
      have hz : len0 ≤ z0.length := by
        rcases w0 with ⟨_, hh, _, _⟩ | ⟨x, _, h1, _, hz, _⟩ <;> omega
      have g1 : w2.cell? ⟨g, k, none⟩ = some (.int .u8 (z0.getD k 0)) := HC.out k hlt
      have g2 : w2.cell? ⟨b, off + k, none⟩ = some (.int .u8 (z0.getD k 0)) := (hB.cell (by exact hbw)).trans (hc k (by omega))
      have hb1 : (k : Int) < (len0 : Int) := by omega
      have hb2 : (k : Int) < (len0 : Int) + 24 := by omega
      clear hc w0
      go_wp2_with fail
      go_quiet (fail)
      go_wp2
      go_roundg (len0 - (k + 1))
      case measure => omega
      case rel => exact ⟨k + 1, _, by omega, by omega, by go_num, rfl⟩
    · obtain ⟨w3, hw3⟩ : ∃ w3, w3 = w2.drewN q := ⟨_, rfl⟩
      rw [← hw3]
      have hB3 : Below w.heap.size w w3 := by rw [hw3]; exact ⟨hB.os, hB.tape, hB.output, hB.size, hB.block⟩
      have HO3 : Hid (∀ j u, (le8 h ++ le8 (IntKind.u64.wrap o) ++ le8 (IntKind.u64.wrap z))[j]? = some u → w3.cell? ⟨g, len0 + j, none⟩ = some u) := by rw [hw3]; exact HO
      clear HO HC hw3 hB
      have hwo := wrap_u64_bd o
      have hwz := wrap_u64_bd z
      go_wp2_with fail
      generalize IntKind.u64.wrap o = o1 at *
      generalize IntKind.u64.wrap z = z1 at *
      have hgs : g < w3.heap.size := World.block_lt_of_cell? w3 _ (HO3.out 0 _ rfl)
      obtain ⟨w4, hw4⟩ : ∃ w4, w4 = w3.alloc (.cells #[.int .u64 h, .int .u64 o1, .int .u64 z1] 51) := ⟨_, rfl⟩
      have hB4 : Below w.heap.size w w4 := by rw [hw4]; exact hB3.alloc (by have := hB3.size; omega) _
      have HO4 : Hid (∀ j u, (le8 h ++ le8 o1 ++ le8 z1)[j]? = some u → w4.cell? ⟨g, len0 + j, none⟩ = some u) := fun j u hj => by rw [hw4]; exact Lib.cell?_alloc_some _ (HO3.out j u hj)
      have hbox : w4.heap[w3.heap.size]? = some (.cells #[.int .u64 h, .int .u64 o1, .int .u64 z1] 51 (0, 0)) := by rw [hw4]; exact heap_alloc_new w3 _
      have c0 : w4.cell? ⟨w3.heap.size, 0, none⟩ = some (.int .u64 h) := cell_of_block hbox 0
      have c1 : w4.cell? ⟨w3.heap.size, 1, none⟩ = some (.int .u64 o1) := cell_of_block hbox 1
      have c2 : w4.cell? ⟨w3.heap.size, 2, none⟩ = some (.int .u64 z1) := cell_of_block hbox 2
      rw [← hw4]
      clear hw4 hbox HO3 hB3 w0
      go_loopg [15] 3 (fun gh s15 wr => ∃ k q : Nat, k ≤ 3 ∧ 3 - k ≤ gh ∧ s15 = .int .i64 k ∧ wr = w4.drewN q)
      case atStart => exact ⟨0, 0, Nat.zero_le _, by omega, rfl, rfl⟩
      case round =>
        obtain ⟨k, q, hk, hg, rfl, rfl⟩ := hrel
        have hks : k = 0 ∨ k = 1 ∨ k = 2 ∨ k = 3 := by omega
        rcases hks with rfl | rfl | rfl | rfl
        · go_wp2_with fail
          go_loopg [16] 8 (fun gh s16 wr => ∃ i q : Nat, i ≤ 8 ∧ 8 - i ≤ gh ∧ s16 = .int .i64 i ∧ wr = w4.drewN q)
          case atStart => exact ⟨0, q, Nat.zero_le _, by omega, rfl, rfl⟩
          case round =>
            obtain ⟨i, q, hi, hg, rfl, rfl⟩ := hrel
            have his : i = 0 ∨ i = 1 ∨ i = 2 ∨ i = 3 ∨ i = 4 ∨ i = 5 ∨ i = 6 ∨ i = 7 ∨ i = 8 := by omega
            rcases his with rfl | rfl | rfl | rfl | rfl | rfl | rfl | rfl | rfl
            · have gg : w4.cell? ⟨g, len0, none⟩ = _ := HO4.out 0 _ rfl
              go_wp2_with fail
              go_quiet (fail)
              go_wp2
              go_roundg 7
              case measure => omega
              case rel => exact ⟨1, _, by omega, by omega, by go_num, rfl⟩
            · have gg : w4.cell? ⟨g, len0 + 1, none⟩ = _ := HO4.out 1 _ rfl
              go_wp2_with fail
              go_quiet (fail)
              go_wp2
              go_roundg 6
              case measure => omega
              case rel => exact ⟨2, _, by omega, by omega, by go_num, rfl⟩
            · have gg : w4.cell? ⟨g, len0 + 2, none⟩ = _ := HO4.out 2 _ rfl
              go_wp2_with fail
              go_quiet (fail)
              go_wp2
              go_roundg 5
              case measure => omega
              case rel => exact ⟨3, _, by omega, by omega, by go_num, rfl⟩
            · have gg : w4.cell? ⟨g, len0 + 3, none⟩ = _ := HO4.out 3 _ rfl
              go_wp2_with fail
              go_quiet (fail)
              go_wp2
              go_roundg 4
              case measure => omega
              case rel => exact ⟨4, _, by omega, by omega, by go_num, rfl⟩
            · have gg : w4.cell? ⟨g, len0 + 4, none⟩ = _ := HO4.out 4 _ rfl
              go_wp2_with fail
              go_quiet (fail)
              go_wp2
              go_roundg 3
              case measure => omega
              case rel => exact ⟨5, _, by omega, by omega, by go_num, rfl⟩
            · have gg : w4.cell? ⟨g, len0 + 5, none⟩ = _ := HO4.out 5 _ rfl
              go_wp2_with fail
              go_quiet (fail)
              go_wp2
              go_roundg 2
              case measure => omega
              case rel => exact ⟨6, _, by omega, by omega, by go_num, rfl⟩
            · have gg : w4.cell? ⟨g, len0 + 6, none⟩ = _ := HO4.out 6 _ rfl
              go_wp2_with fail
              go_quiet (fail)
              go_wp2
              go_roundg 1
              case measure => omega
              case rel => exact ⟨7, _, by omega, by omega, by go_num, rfl⟩
            · have gg : w4.cell? ⟨g, len0 + 7, none⟩ = _ := HO4.out 7 _ rfl
              go_wp2_with fail
              go_quiet (fail)
              go_wp2
              go_roundg 0
              case measure => omega
              case rel => exact ⟨8, _, by omega, by omega, by go_num, rfl⟩
            · go_wp2
              go_roundg 2
              case measure => omega
              case rel => exact ⟨1, _, by omega, by omega, by go_num, rfl⟩
        · go_wp2_with fail
          go_loopg [16] 8 (fun gh s16 wr => ∃ i q : Nat, i ≤ 8 ∧ 8 - i ≤ gh ∧ s16 = .int .i64 i ∧ wr = w4.drewN q)
          case atStart => exact ⟨0, q, Nat.zero_le _, by omega, rfl, rfl⟩
          case round =>
            obtain ⟨i, q, hi, hg, rfl, rfl⟩ := hrel
            have his : i = 0 ∨ i = 1 ∨ i = 2 ∨ i = 3 ∨ i = 4 ∨ i = 5 ∨ i = 6 ∨ i = 7 ∨ i = 8 := by omega
            rcases his with rfl | rfl | rfl | rfl | rfl | rfl | rfl | rfl | rfl
            · have gg : w4.cell? ⟨g, len0 + 8, none⟩ = _ := HO4.out 8 _ rfl
              go_wp2_with fail
              go_quiet (fail)
              go_wp2
              go_roundg 7
              case measure => omega
              case rel => exact ⟨1, _, by omega, by omega, by go_num, rfl⟩
            · have gg : w4.cell? ⟨g, len0 + 9, none⟩ = _ := HO4.out 9 _ rfl
              go_wp2_with fail
              go_quiet (fail)
              go_wp2
              go_roundg 6
              case measure => omega
              case rel => exact ⟨2, _, by omega, by omega, by go_num, rfl⟩
            · have gg : w4.cell? ⟨g, len0 + 10, none⟩ = _ := HO4.out 10 _ rfl
              go_wp2_with fail
              go_quiet (fail)
              go_wp2
              go_roundg 5
              case measure => omega
              case rel => exact ⟨3, _, by omega, by omega, by go_num, rfl⟩
            · have gg : w4.cell? ⟨g, len0 + 11, none⟩ = _ := HO4.out 11 _ rfl
              go_wp2_with fail
              go_quiet (fail)
              go_wp2
              go_roundg 4
              case measure => omega
              case rel => exact ⟨4, _, by omega, by omega, by go_num, rfl⟩
            · have gg : w4.cell? ⟨g, len0 + 12, none⟩ = _ := HO4.out 12 _ rfl
              go_wp2_with fail
              go_quiet (fail)
              go_wp2
              go_roundg 3
              case measure => omega
              case rel => exact ⟨5, _, by omega, by omega, by go_num, rfl⟩
            · have gg : w4.cell? ⟨g, len0 + 13, none⟩ = _ := HO4.out 13 _ rfl
              go_wp2_with fail
              go_quiet (fail)
              go_wp2
              go_roundg 2
              case measure => omega
              case rel => exact ⟨6, _, by omega, by omega, by go_num, rfl⟩
            · have gg : w4.cell? ⟨g, len0 + 14, none⟩ = _ := HO4.out 14 _ rfl
              go_wp2_with fail
              go_quiet (fail)
              go_wp2
              go_roundg 1
              case measure => omega
              case rel => exact ⟨7, _, by omega, by omega, by go_num, rfl⟩
            · have gg : w4.cell? ⟨g, len0 + 15, none⟩ = _ := HO4.out 15 _ rfl
              go_wp2_with fail
              go_quiet (fail)
              go_wp2
              go_roundg 0
              case measure => omega
              case rel => exact ⟨8, _, by omega, by omega, by go_num, rfl⟩
            · go_wp2
              go_roundg 1
              case measure => omega
              case rel => exact ⟨2, _, by omega, by omega, by go_num, rfl⟩
        · go_wp2_with fail
          go_loopg [16] 8 (fun gh s16 wr => ∃ i q : Nat, i ≤ 8 ∧ 8 - i ≤ gh ∧ s16 = .int .i64 i ∧ wr = w4.drewN q)
          case atStart => exact ⟨0, q, Nat.zero_le _, by omega, rfl, rfl⟩
          case round =>
            obtain ⟨i, q, hi, hg, rfl, rfl⟩ := hrel
            have his : i = 0 ∨ i = 1 ∨ i = 2 ∨ i = 3 ∨ i = 4 ∨ i = 5 ∨ i = 6 ∨ i = 7 ∨ i = 8 := by omega
            rcases his with rfl | rfl | rfl | rfl | rfl | rfl | rfl | rfl | rfl
            · have gg : w4.cell? ⟨g, len0 + 16, none⟩ = _ := HO4.out 16 _ rfl
              go_wp2_with fail
              go_quiet (fail)
              go_wp2
              go_roundg 7
              case measure => omega
              case rel => exact ⟨1, _, by omega, by omega, by go_num, rfl⟩
            · have gg : w4.cell? ⟨g, len0 + 17, none⟩ = _ := HO4.out 17 _ rfl
              go_wp2_with fail
              go_quiet (fail)
              go_wp2
              go_roundg 6
              case measure => omega
              case rel => exact ⟨2, _, by omega, by omega, by go_num, rfl⟩
            · have gg : w4.cell? ⟨g, len0 + 18, none⟩ = _ := HO4.out 18 _ rfl
              go_wp2_with fail
              go_quiet (fail)
              go_wp2
              go_roundg 5
              case measure => omega
              case rel => exact ⟨3, _, by omega, by omega, by go_num, rfl⟩
            · have gg : w4.cell? ⟨g, len0 + 19, none⟩ = _ := HO4.out 19 _ rfl
              go_wp2_with fail
              go_quiet (fail)
              go_wp2
              go_roundg 4
              case measure => omega
              case rel => exact ⟨4, _, by omega, by omega, by go_num, rfl⟩
            · have gg : w4.cell? ⟨g, len0 + 20, none⟩ = _ := HO4.out 20 _ rfl
              go_wp2_with fail
              go_quiet (fail)
              go_wp2
              go_roundg 3
              case measure => omega
              case rel => exact ⟨5, _, by omega, by omega, by go_num, rfl⟩
            · have gg : w4.cell? ⟨g, len0 + 21, none⟩ = _ := HO4.out 21 _ rfl
              go_wp2_with fail
              go_quiet (fail)
              go_wp2
              go_roundg 2
              case measure => omega
              case rel => exact ⟨6, _, by omega, by omega, by go_num, rfl⟩
            · have gg : w4.cell? ⟨g, len0 + 22, none⟩ = _ := HO4.out 22 _ rfl
              go_wp2_with fail
              go_quiet (fail)
              go_wp2
              go_roundg 1
              case measure => omega
              case rel => exact ⟨7, _, by omega, by omega, by go_num, rfl⟩
            · have gg : w4.cell? ⟨g, len0 + 23, none⟩ = _ := HO4.out 23 _ rfl
              go_wp2_with fail
              go_quiet (fail)
              go_wp2
              go_roundg 0
              case measure => omega
              case rel => exact ⟨8, _, by omega, by omega, by go_num, rfl⟩
            · go_wp2
              go_roundg 0
              case measure => omega
              case rel => exact ⟨3, _, by omega, by omega, by go_num, rfl⟩
        · go_wp2
          go_ret
          exact ⟨rfl, ⟨hB4.os, hB4.tape, hB4.output, hB4.size, hB4.block⟩⟩
end Go.Proofs.Ybulkddg
