import Derived.Test.YbulkdfkFmtHeader
import Derived.Deep.RegionHeld3
import Derived.Deep.QuietTactic
import Derived.BigQuiet
import Derived.Deep.Draws
namespace Go.Proofs.YbulkdfkFmt
open Go.RowKit Go.Extern.Stop Go.Stop Go.Extern
set_option linter.unusedVariables false

theorem setBlock {w : World} {k t : Nat} {cs : Array Value} {r : Nat × Nat} (hk : w.heap[k]? = some (.cells cs t r)) (i : Nat) (v : Value) : (w.setCell ⟨k, i, none⟩ v).heap[k]? = some (.cells (cs.setIfInBounds i v) t r) := by
  simp [World.setCell, Array.getElem?_modify, hk]
theorem keptCell {w w1 : World} (h : RowKit.Below w.heap.size w w1) {a : Addr} {v : Value} (hc : w.cell? a = some v) : w1.cell? a = some v := by
  rw [h.cell ?_, hc]
  apply Classical.byContradiction
  intro hn
  simp [World.cell?, Array.getElem?_eq_none (Nat.not_lt.mp hn)] at hc
set_option maxHeartbeats 800000 in
set_option maxRecDepth 100000 in
theorem timeOf_any (F : Interp) (t0 t1 t2 t3 : Int) (ahead : Bool) (t5 t6 : Int) (w : World) (hF : F.answers w.tape) :
    Calls Ybaf.prog 24 #[.agg #[.int .i64 t0, .int .i64 t1, .int .i64 t2, .int .i64 t3, .bool ahead, .int .i64 t5, .int .i64 t6]] w fun e w' => ∃ s, e = .returned (.agg #[.int .i64 t0, .int .i64 t1, .int .i64 t2, .int .i64 t3, .string s]) ∧ Below w.heap.size w w' := by
  have HU : Hid (∀ W, W.tape = w.tape → Calls Ybaf.prog 36 #[.agg #[.int .i64 t0, .int .i64 t1, .int .i64 t2, .int .i64 t3, .bool ahead, .int .i64 t5, .int .i64 t6]] W fun e w' => ∃ s, e = .returned (.string s) ∧ Below W.heap.size W w') := fun W hW => utc F t0 t1 t2 t3 ahead t5 t6 W (by rw [hW]; exact hF)
  have HB : Hid (∀ (W w1 : World), W.heap = (w.heap.push (.cells #[.int .i64 t0, .int .i64 t1, .int .i64 t2, .int .i64 t3, .bool ahead, .int .i64 t5, .int .i64 t6] 47)).push (.cells #[.int .i64 0, .int .i64 0, .int .i64 0, .int .i64 0, .string ⟨#[]⟩] 62) → Below W.heap.size W w1 → w1.heap[w.heap.size + 1]? = some (.cells #[.int .i64 0, .int .i64 0, .int .i64 0, .int .i64 0, .string ⟨#[]⟩] 62)) := by
    intro W w1 h1 h2
    rw [h2.block _ (by rw [h1]; simp), h1, Array.getElem?_push, if_pos (by simp)]
  go_enter Ybaf.func24, Ybaf.ntmps24
  go_wp2
  go_region_held3 (fun W => W.cell? ⟨w.heap.size, 0, none⟩ = some (.int .i64 t0) ∧ W.cell? ⟨w.heap.size, 1, none⟩ = some (.int .i64 t1) ∧ W.cell? ⟨w.heap.size, 2, none⟩ = some (.int .i64 t2) ∧ W.cell? ⟨w.heap.size, 3, none⟩ = some (.int .i64 t3) ∧ W.cell? ⟨w.heap.size, 4, none⟩ = some (.bool ahead) ∧ W.cell? ⟨w.heap.size, 5, none⟩ = some (.int .i64 t5) ∧ W.cell? ⟨w.heap.size, 6, none⟩ = some (.int .i64 t6)) (go_keep) (first | (go_at_call 36; refine Calls.mono (HU.out _ ?_) ?_; rfl; rintro e w1 ⟨s, rfl, hb1⟩; rename _ ∧ _ => hh; obtain ⟨r0, r1, r2, r3, r4, r5, r6⟩ := hh; have u0 := keptCell hb1 r0; have u1 := keptCell hb1 r1; have u2 := keptCell hb1 r2; have u3 := keptCell hb1 r3; have u4 := keptCell hb1 r4; have u5 := keptCell hb1 r5; have u6 := keptCell hb1 r6; have u7 := HB.out _ w1 rfl hb1; have u8 := cell_of_block u7; have u9 := frozen_of_block u7))
  go_wp2
  have v0 := setBlock u7 0 (.int .i64 t0)
  have v1 := setBlock v0 1 (.int .i64 t1)
  have v2 := setBlock v1 2 (.int .i64 t2)
  have v3 := setBlock v2 3 (.int .i64 t3)
  have v4 := cell_of_block (setBlock v3 4 (.string s))
  simp at v4
  refine bodyPost_ret (v := .agg #[.int .i64 t0, .int .i64 t1, .int .i64 t2, .int .i64 t3, .string s]) ?_ rfl ⟨s, rfl, ?_⟩
  · have y0 := v4 0
    have y1 := v4 1
    have y2 := v4 2
    have y3 := v4 3
    have y4 := v4 4
    simp at y0 y1 y2 y3 y4
    clear v0 v1 v2 v3 v4
    simp [results, Ybaf.results24, go_sem, y0, y1, y2, y3, y4]
  · have hz : Below w.heap.size w w1 := ((((Below.refl _ w).alloc (Nat.le_refl _) _).alloc (by simp) _).drew).trans (hb1.mono (by simp; omega))
    exact ((((hz.setCell (by simp) _).setCell (by simp) _).setCell (by simp) _).setCell (by simp) _).setCell (by simp) _
end Go.Proofs.YbulkdfkFmt
