import Derived.Test.YbulkddgClosure
namespace Go.Proofs.Ybulkddg
open Go.RowKit
open Go.WideShapes (add_plain)
set_option linter.unusedVariables false

theorem neq_nil (w : World) (f : Fn) (x y : Array Value) : (binOp .neq 28 (.func f x y) .nilFunc).run Yba.prog w = .ok (.bool true) w := by kernel_rfl

set_option maxHeartbeats 400000 in
set_option maxRecDepth 100000 in
theorem logf_any (w W : World) (q : Nat) (s : ByteArray) (a : Option Addr) (len cap : Nat) (zs : List Int) (k : Int) (h0 : 0 ≤ k) (hk : k ≤ 100) (w0 : Row .i64 w a len cap zs) (hlen : len ≤ 1024) (hS : St w W q s a len cap zs 0 k) :
    Calls Yba.prog 10 #[.pointer (some ⟨q, 0, none⟩), .string s, .slice (some ⟨w.heap.size + 1 + 1, 0, none⟩) len len] W
      fun e w' => e = .returned (.tuple #[]) ∧ St w w' q s a len cap zs 0 (k + 1) := by
  have c4 : W.cell? ⟨q, 4, none⟩ = some (clo w.heap.size q) := cell_of_block hS.b3 4
  have c5 : W.cell? ⟨q, 5, none⟩ = some (.int .i32 0) := cell_of_block hS.b3 5
  have f5 : W.frozen? ⟨q, 5, none⟩ = false := frozen_of_block hS.b3 5
  have hT := hS.setLock 1
  have d4 : (W.setCell ⟨q, 5, none⟩ (.int .i32 1)).cell? ⟨q, 4, none⟩ = some (clo w.heap.size q) := cell_of_block hT.b3 4
  unfold clo at c4 d4
  have hnn := neq_nil
  go_enter_defers Yba.func10, Yba.ntmps10
  go_wp2_with (go_at_call 17; refine (lock_free _ _ c5 f5).mono ?_; rintro e w' ⟨rfl, rfl⟩)
  refine (closure w _ q s a len cap zs k h0 hk w0 hlen hT).mono ?_
  rintro e w1 ⟨rfl, hw1⟩
  have hU := hT.setCalls (k + 1)
  rw [← hw1] at hU
  have HW : Hid _ := hw1
  clear hw1
  have u5 : w1.cell? ⟨q, 5, none⟩ = some (.int .i32 1) := cell_of_block hU.b3 5
  have uf5 : w1.frozen? ⟨q, 5, none⟩ = false := frozen_of_block hU.b3 5
  go_wp2_with fail
  refine leaves_cons (f := 9) (args := #[.pointer (some ⟨q, 5, none⟩)]) (by simp) (by simp [go_sem]) ?_
  refine (unlock_deferred ⟨q, 5, none⟩ .returning _ u5 uf5).mono ?_
  rintro e u' w'' ⟨rfl, rfl, rfl⟩
  exact ⟨_, results_none rfl _ _ _, rfl, hU.setLock 0⟩
theorem St.start {w wr W : World} {s : ByteArray} {a : Option Addr} {len cap : Nat} {zs : List Int} (h : Lp w wr s a len cap zs len)
    (hW : W = ((((wr.alloc (.cells #[.pointer none, .string { data := #[] }, .string { data := #[] }, .nilIface, clo w.heap.size wr.heap.size, .int .i32 0, .int .u32 0, .int .i32 0, .int .u32 0, .int .i64 0] 41)).alloc (.cells #[.pointer (some ⟨wr.heap.size, 0, none⟩)] 24)).alloc (.cells #[.int .i64 0] 3)).alloc (.cells #[.bool true] 4))) :
    St w W wr.heap.size s a len cap zs 0 0 := by
  have l0 := lt_of_block h.b0
  have l1 := lt_of_block h.b1
  have l2 := lt_of_block h.b2
  subst hW
  generalize hA : (Obj.cells #[.pointer none, .string { data := #[] }, .string { data := #[] }, .nilIface, clo w.heap.size wr.heap.size, .int .i32 0, .int .u32 0, .int .i32 0, .int .u32 0, .int .i64 0] 41) = oA
  generalize hB : (Obj.cells #[.pointer (some ⟨wr.heap.size, 0, none⟩)] 24) = oB
  generalize hC : (Obj.cells #[.int .i64 0] 3) = oC
  generalize hD : (Obj.cells #[.bool true] 4) = oD
  have e1 : (wr.alloc oA).heap.size = wr.heap.size + 1 := by simp
  have e2 : ((wr.alloc oA).alloc oB).heap.size = wr.heap.size + 1 + 1 := by simp
  have e3 : (((wr.alloc oA).alloc oB).alloc oC).heap.size = wr.heap.size + 1 + 1 + 1 := by simp
  have old : ∀ i, i < wr.heap.size → ((((wr.alloc oA).alloc oB).alloc oC).alloc oD).heap[i]? = wr.heap[i]? := fun i hi => by
    rw [Below.heap_alloc _ _ _ (by omega), Below.heap_alloc _ _ _ (by omega), Below.heap_alloc _ _ _ (by omega), Below.heap_alloc _ _ _ (by omega)]
  refine ⟨(((h.bel.alloc (by omega) _).alloc (by omega) _).alloc (by omega) _).alloc (by omega) _, l2, ?_, ?_, ?_, ?_, ?_, ?_, ?_⟩
  · rw [old _ l0]; exact h.b0
  · rw [old _ l1]; exact h.b1
  · rw [old _ l2]; exact h.b2
  · rw [Below.heap_alloc _ _ _ (by omega), Below.heap_alloc _ _ _ (by omega), Below.heap_alloc _ _ _ (by omega), hA]; exact heap_alloc_new _ _
  · rw [Below.heap_alloc _ _ _ (by omega), Below.heap_alloc _ _ _ (by omega), hB, ← e1]; exact heap_alloc_new _ _
  · rw [Below.heap_alloc _ _ _ (by omega), hC, ← e2]; exact heap_alloc_new _ _
  · rw [hD, ← e3]; exact heap_alloc_new _ _

set_option maxHeartbeats 400000 in
set_option maxRecDepth 100000 in
theorem acalls (s : ByteArray) (a0 : Option Addr) (len0 cap0 : Nat) (z0 : List Int) (r : Int) (w : World) (w0 : Row .i64 w a0 len0 cap0 z0) (h0 : 0 ≤ r) (hv : r ≤ 255) (hlen : len0 ≤ 1024) :
    Calls Yba.prog 3 #[.string s, .slice a0 len0 cap0, .int .u8 r] w fun e w' => e = .returned (.bool true) ∧ Below w.heap.size w w' := by
  have hl : ¬ (1024 : Int) < (len0 : Int) := by omega
  have hz := w0.le
  have hmk := fun W => run_make_row' (P := Yba.prog) 23 20 .nilIface 16 Yba.underlying23 Yba.info20 rfl .i64 .i64 len0 (by omega) (by omega) W
  go_enter Yba.func3, Yba.ntmps3
  go_wp2_with fail
  clear hmk
  go_loopg [8] len0 (fun gh s8 wr => ∃ k : Nat, k ≤ len0 ∧ len0 - k ≤ gh ∧ s8 = .int .i64 k ∧ Lp w wr s a0 len0 cap0 z0 k)
  case atStart => exact ⟨0, Nat.zero_le _, by omega, rfl, Lp.start _ _ _ _ _ _⟩
  case round =>
    obtain ⟨k, hk, hg, rfl, hL⟩ := hrel
    have c1 : wr.cell? ⟨w.heap.size + 1, 0, none⟩ = some (.slice a0 len0 cap0) := cell_of_block hL.b1 0
    by_cases hlt : k < len0
    · obtain ⟨b, off, rfl, hbw, hc⟩ := w0.at (by omega)
      have g1 : wr.cell? ⟨b, off + k, none⟩ = some (.int .i64 (z0.getD k 0)) := (hL.bel.cell (by exact hbw)).trans (hc k (by omega))
      have g2 : wr.cell? ⟨w.heap.size + 1 + 1, k, none⟩ = some .nilIface := (cell_of_block hL.b2 k).trans (anysTo_at z0 len0 k hlt hz)
      have g3 : wr.frozen? ⟨w.heap.size + 1 + 1, k, none⟩ = false := frozen_of_block hL.b2 k
      have hstep := hL.step hlt hz
      have HS : Hid _ := hstep
      clear hc w0 hstep
      go_wp2_with fail
      go_roundg (len0 - (k + 1))
      case measure => omega
      case rel => exact ⟨k + 1, by omega, by omega, by go_num, HS.out⟩
    · obtain rfl : k = len0 := by omega
      have hbel := hL.bel
      have hsz : w.heap.size + 1 + 1 < wr.heap.size := lt_of_block hL.b2
      go_wp2_with fail
      obtain ⟨W, hW⟩ : ∃ W, W = ((((wr.alloc (.cells #[.pointer none, .string { data := #[] }, .string { data := #[] }, .nilIface, clo w.heap.size wr.heap.size, .int .i32 0, .int .u32 0, .int .i32 0, .int .u32 0, .int .i64 0] 41)).alloc (.cells #[.pointer (some ⟨wr.heap.size, 0, none⟩)] 24)).alloc (.cells #[.int .i64 0] 3)).alloc (.cells #[.bool true] 4)) := ⟨_, rfl⟩
      have hS0 := St.start hL hW
      unfold clo at hW
      rw [← hW]
      clear hW hL hbel hsz c1
      generalize wr.heap.size = q at *
      clear wr
      go_loopg [13] (1 + r % 3).toNat (fun gh s13 wr => ∃ j : Nat, (j : Int) ≤ 1 + r % 3 ∧ (1 + r % 3 - j).toNat ≤ gh ∧ s13 = .int .i64 j ∧ St w wr q s a0 k cap0 z0 0 j)
      case atStart => exact ⟨0, by omega, by omega, rfl, hS0⟩
      case round =>
        obtain ⟨j, hj, hg, rfl, hS⟩ := hrel
        have c0 : wr.cell? ⟨w.heap.size, 0, none⟩ = some (.string s) := cell_of_block hS.b0 0
        have c4 : wr.cell? ⟨q + 1, 0, none⟩ = some (.pointer (some ⟨q, 0, none⟩)) := cell_of_block hS.b4 0
        by_cases hlt : (j : Int) < 1 + r % 3
        · go_wp2_with fail
          refine (logf_any w wr q s a0 k cap0 z0 j (by omega) (by omega) w0 hlen hS).mono ?_
          rintro e w1 ⟨rfl, hS1⟩
          go_wp2_with fail
          go_roundg (1 + r % 3 - (j + 1)).toNat
          case measure => omega
          case rel => exact ⟨j + 1, by omega, by omega, by go_num, hS1⟩
        · have hjr : (j : Int) = 1 + r % 3 := by omega
          rw [hjr] at hS
          have c5 : wr.cell? ⟨q + 1 + 1, 0, none⟩ = some (.int .i64 (1 + r % 3)) := cell_of_block hS.b5 0
          have c6 : wr.cell? ⟨q + 1 + 1 + 1, 0, none⟩ = some (.bool true) := cell_of_block hS.b6 0
          have c7 : wr.cell? ⟨q, 5, none⟩ = some (.int .i32 0) := cell_of_block hS.b3 5
          have f7 : wr.frozen? ⟨q, 5, none⟩ = false := frozen_of_block hS.b3 5
          have hT := hS.setLock 1
          have d4 : (wr.setCell ⟨q, 5, none⟩ (.int .i32 1)).cell? ⟨q + 1, 0, none⟩ = some (.pointer (some ⟨q, 0, none⟩)) := cell_of_block hT.b4 0
          have d7 : (wr.setCell ⟨q, 5, none⟩ (.int .i32 1)).cell? ⟨q, 5, none⟩ = some (.int .i32 1) := cell_of_block hT.b3 5
          have df7 : (wr.setCell ⟨q, 5, none⟩ (.int .i32 1)).frozen? ⟨q, 5, none⟩ = false := frozen_of_block hT.b3 5
          have hU := (hT.setLock 0).bel
          clear hjr
          go_wp2_with (first | (go_at_call 8; refine (try_free _ _ c7 f7).mono ?_; rintro e w' ⟨rfl, rfl⟩) | (go_at_call 9; refine (unlock_held _ _ d7 df7).mono ?_; rintro e w' ⟨rfl, rfl⟩))
          go_ret
          exact ⟨rfl, hU⟩
end Go.Proofs.Ybulkddg
