import Derived.Test.YbulkddgLocks
import Derived.Test.YbulkddgLedger
import Derived.Deep.LoopGhost
import Derived.Deep.OwnRows
namespace Go.Proofs.Ybulkddg
open Go.RowKit
open Go.WideShapes (add_plain)
set_option linter.unusedVariables false
theorem Yba.info20 : (Yba.prog.info? 20).map (fun i => (i.zero, i.size, i.bytes)) = some (some .nilIface, 1, 16) := by kernel_rfl

/-- 'anys' behind k rounds: k integers as interface values, nil behind them. -/
def anysTo (zs : List Int) (len k : Nat) : Array Value := ((zs.take k).map (fun z => Value.iface 3 (.int .i64 z)) ++ List.replicate (len - k) Value.nilIface).toArray

theorem made_nil (n : Nat) : madeCells #[Value.nilIface] n = (List.replicate n Value.nilIface).toArray := by
  unfold madeCells
  apply Array.ext
  · simp
  · intro i h1 h2
    simp [Nat.mod_one]

theorem anysTo_zero (zs : List Int) (len : Nat) : anysTo zs len 0 = madeCells #[Value.nilIface] len := by
  rw [made_nil]; simp [anysTo]

theorem anysTo_size (zs : List Int) (len k : Nat) (hk : k ≤ len) (hz : len ≤ zs.length) : (anysTo zs len k).size = len := by
  simp [anysTo]; omega

theorem anysTo_at (zs : List Int) (len k : Nat) (hk : k < len) (hz : len ≤ zs.length) : (anysTo zs len k)[k]? = some .nilIface := by
  have hl : ((zs.take k).map (fun z => Value.iface 3 (.int .i64 z))).length = k := by simp; omega
  simp only [anysTo, List.getElem?_toArray]
  rw [List.getElem?_append_right (by omega), hl, Nat.sub_self, List.getElem?_replicate, if_pos (by omega)]

theorem anysTo_low (zs : List Int) (len k j : Nat) (hj : j < k) (hz : k ≤ zs.length) : (anysTo zs len k)[j]? = some (.iface 3 (.int .i64 (zs.getD j 0))) := by
  have hl : ((zs.take k).map (fun z => Value.iface 3 (.int .i64 z))).length = k := by simp; omega
  simp only [anysTo, List.getElem?_toArray]
  rw [List.getElem?_append_left (by omega), List.getElem?_map, List.getElem?_take, if_pos hj, List.getD_eq_getElem?_getD, List.getElem?_eq_getElem (by omega)]
  rfl

theorem anysTo_succ (zs : List Int) (len k : Nat) (hk : k < len) (hz : len ≤ zs.length) : (anysTo zs len k).setIfInBounds k (.iface 3 (.int .i64 (zs.getD k 0))) = anysTo zs len (k + 1) := by
  apply Array.ext_getElem?
  intro j
  have hs := anysTo_size zs len k (by omega) hz
  rw [Array.getElem?_setIfInBounds]
  by_cases e : k = j
  · subst e
    rw [if_pos rfl, if_pos (by omega), anysTo_low zs len (k + 1) k (by omega) (by omega)]
  · rw [if_neg e]
    by_cases hj : j < k
    · rw [anysTo_low zs len k j hj (by omega), anysTo_low zs len (k + 1) j (by omega) (by omega)]
    · have h1 : ((zs.take k).map (fun z => Value.iface 3 (.int .i64 z))).length = k := by simp; omega
      have h2 : ((zs.take (k + 1)).map (fun z => Value.iface 3 (.int .i64 z))).length = k + 1 := by simp; omega
      simp only [anysTo, List.getElem?_toArray]
      rw [List.getElem?_append_right (by omega), List.getElem?_append_right (by omega), h1, h2, List.getElem?_replicate, List.getElem?_replicate]
      by_cases hh : j < len
      · rw [if_pos (by omega), if_pos (by omega)]
      · rw [if_neg (by omega), if_neg (by omega)]

/-- The worlds of the first loop. -/
structure Lp (w wr : World) (s : ByteArray) (a : Option Addr) (len cap : Nat) (zs : List Int) (k : Nat) : Prop where
  bel : Below w.heap.size w wr
  b0 : wr.heap[w.heap.size]? = some (.cells #[.string s] 9 (0, 0))
  b1 : wr.heap[w.heap.size + 1]? = some (.cells #[.slice a len cap] 22 (0, 0))
  b2 : wr.heap[w.heap.size + 1 + 1]? = some (.cells (anysTo zs len k) 20 (0, 0))

theorem frozen_of_block {w : World} {k t : Nat} {cs : Array Value} (hk : w.heap[k]? = some (.cells cs t (0, 0))) (i : Nat) : w.frozen? ⟨k, i, none⟩ = false := by
  simp [World.frozen?, hk]

theorem Lp.start (w : World) (s : ByteArray) (a : Option Addr) (len cap : Nat) (zs : List Int) :
    Lp w (((w.alloc (.cells #[.string s] 9)).alloc (.cells #[.slice a len cap] 22)).alloc (.cells (madeCells #[.nilIface] len) 20)) s a len cap zs 0 := by
  have e1 : (w.alloc (.cells #[.string s] 9)).heap.size = w.heap.size + 1 := by simp
  have e2 : ((w.alloc (.cells #[.string s] 9)).alloc (.cells #[.slice a len cap] 22)).heap.size = w.heap.size + 1 + 1 := by simp
  refine ⟨(((Below.refl _ w).alloc (Nat.le_refl _) _).alloc (by omega) _).alloc (by omega) _, ?_, ?_, ?_⟩
  · rw [Below.heap_alloc _ _ _ (by omega), Below.heap_alloc _ _ _ (by omega)]; exact heap_alloc_new w _
  · rw [Below.heap_alloc _ _ _ (by omega), ← e1]; exact heap_alloc_new _ _
  · rw [anysTo_zero, ← e2]; exact heap_alloc_new _ _

theorem Lp.step {w wr : World} {s : ByteArray} {a : Option Addr} {len cap : Nat} {zs : List Int} {k : Nat} (h : Lp w wr s a len cap zs k) (hk : k < len) (hz : len ≤ zs.length) :
    Lp w (wr.setCell ⟨w.heap.size + 1 + 1, k, none⟩ (.iface 3 (.int .i64 (zs.getD k 0)))) s a len cap zs (k + 1) := by
  refine ⟨h.bel.setCell (by simp; omega) _, ?_, ?_, ?_⟩
  · rw [Below.heap_setCell _ _ _ _ (by simp; omega)]; exact h.b0
  · rw [Below.heap_setCell _ _ _ _ (by simp)]; exact h.b1
  · rw [heap_setCell_same _ _ _ _ _ _ h.b2, anysTo_succ zs len k hk hz]

theorem assert_int (z : Int) (w : World) : (Instr.typeAssert (.iface 3 (.int .i64 z)) 20 3 true).run Yba.prog w = .ok (.tuple #[.int .i64 z, .bool true]) w := by kernel_rfl

/-- The closure's value: what it captured. -/
def clo (B q : Nat) : Value := .func (Fn.func 7) #[] #[.pointer (some ⟨q + 1 + 1, 0, none⟩), .pointer (some ⟨B, 0, none⟩), .pointer (some ⟨q + 1 + 1 + 1, 0, none⟩), .pointer (some ⟨B + 1, 0, none⟩), .pointer (some ⟨q + 1, 0, none⟩)]

/-- The worlds of the second loop: lk: the lock's state word; k: how often the closure was called. -/
structure St (w W : World) (q : Nat) (s : ByteArray) (a : Option Addr) (len cap : Nat) (zs : List Int) (lk k : Int) : Prop where
  bel : Below w.heap.size w W
  hq : w.heap.size + 1 + 1 < q
  b0 : W.heap[w.heap.size]? = some (.cells #[.string s] 9 (0, 0))
  b1 : W.heap[w.heap.size + 1]? = some (.cells #[.slice a len cap] 22 (0, 0))
  b2 : W.heap[w.heap.size + 1 + 1]? = some (.cells (anysTo zs len len) 20 (0, 0))
  b3 : W.heap[q]? = some (.cells #[.pointer none, .string { data := #[] }, .string { data := #[] }, .nilIface, clo w.heap.size q, .int .i32 lk, .int .u32 0, .int .i32 0, .int .u32 0, .int .i64 0] 41 (0, 0))
  b4 : W.heap[q + 1]? = some (.cells #[.pointer (some ⟨q, 0, none⟩)] 24 (0, 0))
  b5 : W.heap[q + 1 + 1]? = some (.cells #[.int .i64 k] 3 (0, 0))
  b6 : W.heap[q + 1 + 1 + 1]? = some (.cells #[.bool true] 4 (0, 0))

theorem St.setLock {w W : World} {q : Nat} {s : ByteArray} {a : Option Addr} {len cap : Nat} {zs : List Int} {lk k : Int} (h : St w W q s a len cap zs lk k) (lk' : Int) :
    St w (W.setCell ⟨q, 5, none⟩ (.int .i32 lk')) q s a len cap zs lk' k := by
  have hq := h.hq
  refine ⟨h.bel.setCell (by show w.heap.size ≤ q; omega) _, hq, ?_, ?_, ?_, ?_, ?_, ?_, ?_⟩
  · rw [Below.heap_setCell _ _ _ _ (by show w.heap.size ≠ q; omega)]; exact h.b0
  · rw [Below.heap_setCell _ _ _ _ (by show w.heap.size + 1 ≠ q; omega)]; exact h.b1
  · rw [Below.heap_setCell _ _ _ _ (by show w.heap.size + 1 + 1 ≠ q; omega)]; exact h.b2
  · rw [heap_setCell_same _ _ _ _ _ _ h.b3]; rfl
  · rw [Below.heap_setCell _ _ _ _ (by show q + 1 ≠ q; omega)]; exact h.b4
  · rw [Below.heap_setCell _ _ _ _ (by show q + 1 + 1 ≠ q; omega)]; exact h.b5
  · rw [Below.heap_setCell _ _ _ _ (by show q + 1 + 1 + 1 ≠ q; omega)]; exact h.b6

theorem St.setCalls {w W : World} {q : Nat} {s : ByteArray} {a : Option Addr} {len cap : Nat} {zs : List Int} {lk k : Int} (h : St w W q s a len cap zs lk k) (k' : Int) :
    St w (W.setCell ⟨q + 1 + 1, 0, none⟩ (.int .i64 k')) q s a len cap zs lk k' := by
  have hq := h.hq
  refine ⟨h.bel.setCell (by show w.heap.size ≤ q + 1 + 1; omega) _, hq, ?_, ?_, ?_, ?_, ?_, ?_, ?_⟩
  · rw [Below.heap_setCell _ _ _ _ (by show w.heap.size ≠ q + 1 + 1; omega)]; exact h.b0
  · rw [Below.heap_setCell _ _ _ _ (by show w.heap.size + 1 ≠ q + 1 + 1; omega)]; exact h.b1
  · rw [Below.heap_setCell _ _ _ _ (by show w.heap.size + 1 + 1 ≠ q + 1 + 1; omega)]; exact h.b2
  · rw [Below.heap_setCell _ _ _ _ (by show q ≠ q + 1 + 1; omega)]; exact h.b3
  · rw [Below.heap_setCell _ _ _ _ (by show q + 1 ≠ q + 1 + 1; omega)]; exact h.b4
  · rw [heap_setCell_same _ _ _ _ _ _ h.b5]; rfl
  · rw [Below.heap_setCell _ _ _ _ (by show q + 1 + 1 + 1 ≠ q + 1 + 1; omega)]; exact h.b6

set_option maxHeartbeats 400000 in
set_option maxRecDepth 100000 in
theorem closure (w W : World) (q : Nat) (s : ByteArray) (a : Option Addr) (len cap : Nat) (zs : List Int) (k : Int) (h0 : 0 ≤ k) (hk : k ≤ 100) (w0 : Row .i64 w a len cap zs) (hlen : len ≤ 1024) (hS : St w W q s a len cap zs 1 k) :
    Calls Yba.prog 7 #[.string s, .slice (some ⟨w.heap.size + 1 + 1, 0, none⟩) len len, .pointer (some ⟨q + 1 + 1, 0, none⟩), .pointer (some ⟨w.heap.size, 0, none⟩), .pointer (some ⟨q + 1 + 1 + 1, 0, none⟩), .pointer (some ⟨w.heap.size + 1, 0, none⟩), .pointer (some ⟨q + 1, 0, none⟩)] W
      fun e w' => e = .returned (.tuple #[]) ∧ w' = W.setCell ⟨q + 1 + 1, 0, none⟩ (.int .i64 (k + 1)) := by
  have c5 : W.cell? ⟨q + 1 + 1, 0, none⟩ = some (.int .i64 k) := cell_of_block hS.b5 0
  have f5 : W.frozen? ⟨q + 1 + 1, 0, none⟩ = false := frozen_of_block hS.b5 0
  have hT := hS.setCalls (k + 1)
  have d0 := cell_of_block hT.b0 0
  have d1 := cell_of_block hT.b1 0
  have d3 : (W.setCell ⟨q + 1 + 1, 0, none⟩ (.int .i64 (k + 1))).cell? ⟨q, 5, none⟩ = some (.int .i32 1) := cell_of_block hT.b3 5
  have d4 := cell_of_block hT.b4 0
  have d6 := cell_of_block hT.b6 0
  simp only [List.getElem?_toArray, List.getElem?_cons_zero] at d0 d1 d4 d6
  have hz := w0.le
  go_enter Yba.func7, Yba.ntmps7
  go_wp2_with fail
  obtain ⟨W1, hW1⟩ : ∃ W1, W1 = W.setCell ⟨q + 1 + 1, 0, none⟩ (.int .i64 (k + 1)) := ⟨_, rfl⟩
  rw [← hW1] at d0 d1 d3 d4 d6 hT
  rw [← hW1]
  have HW : Hid (W1 = W.setCell ⟨q + 1 + 1, 0, none⟩ (.int .i64 (k + 1))) := hW1
  have f3 : W1.frozen? ⟨q, 5, none⟩ = false := frozen_of_block hT.b3 5
  clear hW1 hS c5 f5
  go_loopg [9] len (fun gh s9 wr => ∃ j : Nat, j ≤ len ∧ len - j ≤ gh ∧ s9 = .int .i64 j ∧ wr = W1)
  case atStart => exact ⟨0, Nat.zero_le _, by omega, rfl, rfl⟩
  case round =>
    obtain ⟨j, hj, hg, rfl, rfl⟩ := hrel
    by_cases hlt : j < len
    · obtain ⟨b, off, rfl, hbw, hc⟩ := w0.at (by omega)
      have g1 : wr.cell? ⟨b, off + j, none⟩ = some (.int .i64 (zs.getD j 0)) := (hT.bel.cell (by exact hbw)).trans (hc j (by omega))
      have g2 : wr.cell? ⟨w.heap.size + 1 + 1, j, none⟩ = some (.iface 3 (.int .i64 (zs.getD j 0))) := (cell_of_block hT.b2 j).trans (anysTo_low zs len len j hlt hz)
      generalize zs.getD j 0 = zj at g1 g2
      have hT' : Hid _ := hT
      clear hc w0 hT
      have hta := assert_int
      go_wp2_with fail
      go_roundg (len - (j + 1))
      case measure => omega
      case rel => exact ⟨j + 1, by omega, by omega, by go_num, rfl⟩
    · go_wp2_with (go_at_call 8; refine (try_held _ _ d3 f3).mono ?_; rintro e w' ⟨rfl, rfl⟩)
      go_end0
      exact ⟨rfl, HW.out⟩

end Go.Proofs.Ybulkddg
