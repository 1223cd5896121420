import Derived.Test.YbulkdewRows
import Derived.WalkKit
import Derived.WalkSpells
import Derived.WalkLawsBesides
import Derived.WideShapes
import Derived.Deep.LoopGhost
import Derived.Deep.QuietTactic
import Derived.BigQuiet
import Derived.Deep.Draws
import Derived.Deep.RegionHeld3
namespace Go.Proofs.Ybulkdew
open Go.RowKit
open Go.WideShapes (add_plain)
set_option linter.unusedVariables false

/-- A slice of integers that came in: nil, or 'cap' cells that hold the numbers 'zs'. -/
def Row (k : IntKind) (w : World) (a : Option Addr) (len cap : Nat) (zs : List Int) : Prop :=
  (a = none ∧ len = 0 ∧ cap = 0 ∧ zs = []) ∨
  ∃ x, a = some x ∧ len ≤ cap ∧ cap ≤ maxLen ∧ zs.length = cap ∧ (∀ i, i < zs.length → w.cell? (x.add i) = some (.int k (zs.getD i 0))) ∧ ∀ n ∈ zs, (Lit.int k n).wf = true

/-- The slice's elements are zs, in w. -/
structure View (k : IntKind) (w : World) (a : Option Addr) (len : Nat) (zs : List Int) : Prop where
  size : zs.length = len
  cells : 0 < len → ∃ b off, a = some ⟨b, off, none⟩ ∧ b < w.heap.size ∧ ∀ j, j < len → w.cell? ⟨b, off + j, none⟩ = some (.int k (zs.getD j 0))

theorem View.below {k : IntKind} {w w' : World} {a : Option Addr} {len : Nat} {zs : List Int} (h : View k w a len zs) (hb : Below w.heap.size w w') : View k w' a len zs :=
  ⟨h.size, fun hl => by
    obtain ⟨b, off, e, hlt, hc⟩ := h.cells hl
    exact ⟨b, off, e, Nat.lt_of_lt_of_le hlt hb.size, fun j hj => (hb.cell (by exact hlt)).trans (hc j hj)⟩⟩

theorem Row.view {k : IntKind} {w : World} {a : Option Addr} {len cap : Nat} {zs : List Int} (h : Row k w a len cap zs) : View k w a len (zs.take len) := by
  rcases h with ⟨rfl, rfl, rfl, rfl⟩ | ⟨x, rfl, h1, hm, hz, hc, hwf⟩
  · exact ⟨rfl, fun h => absurd h (Nat.lt_irrefl _)⟩
  · refine ⟨by simp; omega, fun hl => ?_⟩
    obtain ⟨b, off, spot⟩ := x
    have hspot : spot = none := by simpa [Addr.add] using World.cell?_spot (hc 0 (by omega))
    subst hspot
    have hc' : ∀ j, j < zs.length → w.cell? ⟨b, off + j, none⟩ = some (.int k (zs.getD j 0)) := fun j hj => by rw [← add_plain]; exact hc j hj
    refine ⟨b, off, rfl, World.block_lt_of_cell? w _ (hc' 0 (by omega)), fun j hj => ?_⟩
    rw [hc' j (by omega), List.getD_eq_getElem?_getD, List.getD_eq_getElem?_getD, List.getElem?_take, if_pos hj]

theorem all_le {zs : List Int} {v : Int} (h : ∀ i, i < zs.length → zs.getD i 0 ≤ v) : zs.all (fun z => decide (z ≤ v)) = true := by
  rw [List.all_eq_true]
  intro z hz
  obtain ⟨i, hi, rfl⟩ := List.getElem_of_mem hz
  have := h i hi
  rw [List.getD_eq_getElem?_getD, List.getElem?_eq_getElem hi] at this
  simpa using this
theorem not_all_le {zs : List Int} {v : Int} (i : Nat) (hi : i < zs.length) (h : v < zs.getD i 0) : zs.all (fun z => decide (z ≤ v)) = false := by
  rw [List.getD_eq_getElem?_getD, List.getElem?_eq_getElem hi] at h
  rw [List.all_eq_false]
  exact ⟨zs[i], List.getElem_mem hi, by simpa using h⟩
theorem any_eq {zs : List Int} {v : Int} (i : Nat) (hi : i < zs.length) (h : zs.getD i 0 = v) : zs.any (fun z => decide (z = v)) = true := by
  rw [List.getD_eq_getElem?_getD, List.getElem?_eq_getElem hi] at h
  rw [List.any_eq_true]
  exact ⟨zs[i], List.getElem_mem hi, by simpa using h⟩
theorem not_any_eq {zs : List Int} {v : Int} (h : ∀ i, i < zs.length → ¬ zs.getD i 0 = v) : zs.any (fun z => decide (z = v)) = false := by
  rw [List.any_eq_false]
  intro z hz
  obtain ⟨i, hi, rfl⟩ := List.getElem_of_mem hz
  have := h i hi
  rw [List.getD_eq_getElem?_getD, List.getElem?_eq_getElem hi] at this
  simpa using this

theorem ret_bool {a b : Bool} (h : a = b) : Ending.returned (.bool a) = .returned (.bool b) := by rw [h]
theorem ret_int {k : IntKind} {a b : Int} (h : a = b) : Ending.returned (.int k a) = .returned (.int k b) := by rw [h]

set_option maxHeartbeats 400000 in
theorem bounds_any (a : Option Addr) (len cap : Nat) (zs : List Int) (v : Int) (w : World) (hV : View .i64 w a len zs) (hlen : len ≤ 100000) :
    Calls Yba.prog 14 #[.slice a len cap, .int .i64 v] w fun e w' => e = .returned (.bool (zs.all (fun z => decide (z ≤ v)))) ∧ w' = w := by
  go_enter Yba.func14, Yba.ntmps14
  go_wp2
  go_loopg [5] len (fun g s5 wr => ∃ j : Nat, j ≤ len ∧ len - j ≤ g ∧ s5 = .int .i64 j ∧ wr = w ∧ Hid (∀ i, i < j → zs.getD i 0 ≤ v))
  case atStart => exact ⟨0, Nat.zero_le _, by omega, rfl, rfl, fun i hi => absurd hi (Nat.not_lt_zero _)⟩
  case round =>
    obtain ⟨j, hj, hg, rfl, rfl, A⟩ := hrel
    by_cases hlt : j < len
    · obtain ⟨b, off, rfl, hbw, hc⟩ := hV.cells (by omega)
      have g1 := hc j hlt
      have hs := hV.size
      clear hc hV
      generalize hzj : zs.getD j 0 = zj at g1
      have HZ : Hid (zs.getD j 0 = zj) := hzj
      have HS : Hid (zs.length = len) := hs
      clear hzj hs
      by_cases hv : v < zj
      · go_wp2
        go_ret
        exact ⟨ret_bool (not_all_le j (by rw [HS.out]; exact hlt) (by rw [HZ.out]; exact hv)).symm, rfl⟩
      · go_wp2
        go_roundg (len - (j + 1))
        case measure => omega
        case rel =>
          refine ⟨j + 1, by omega, by omega, by go_num, rfl, (show Hid _ from fun i hi => ?_)⟩
          by_cases e : i = j
          · subst e; rw [HZ.out]; omega
          · exact A.out i (by omega)
    · have hs := hV.size
      go_wp2
      go_ret
      exact ⟨ret_bool (all_le (fun i hi => A.out i (by omega))).symm, rfl⟩

set_option maxHeartbeats 400000 in
theorem in_any (a : Option Addr) (len cap : Nat) (zs : List Int) (v : Int) (w : World) (hV : View .i64 w a len zs) (hlen : len ≤ 100000) :
    Calls Yba.prog 15 #[.slice a len cap, .int .i64 v] w fun e w' => e = .returned (.bool (zs.any (fun z => decide (z = v)))) ∧ w' = w := by
  go_enter Yba.func15, Yba.ntmps15
  go_wp2
  go_loopg [5] len (fun g s5 wr => ∃ j : Nat, j ≤ len ∧ len - j ≤ g ∧ s5 = .int .i64 j ∧ wr = w ∧ Hid (∀ i, i < j → ¬ zs.getD i 0 = v))
  case atStart => exact ⟨0, Nat.zero_le _, by omega, rfl, rfl, fun i hi => absurd hi (Nat.not_lt_zero _)⟩
  case round =>
    obtain ⟨j, hj, hg, rfl, rfl, A⟩ := hrel
    by_cases hlt : j < len
    · obtain ⟨b, off, rfl, hbw, hc⟩ := hV.cells (by omega)
      have g1 := hc j hlt
      have hs := hV.size
      clear hc hV
      generalize hzj : zs.getD j 0 = zj at g1
      have HZ : Hid (zs.getD j 0 = zj) := hzj
      have HS : Hid (zs.length = len) := hs
      clear hzj hs
      by_cases hv : zj = v
      · have hv' : (zj == v) = true := by simpa using hv
        have HV : Hid (zj = v) := hv
        clear hv
        go_wp2
        go_ret
        exact ⟨ret_bool (any_eq j (by rw [HS.out]; exact hlt) (by rw [HZ.out]; exact HV.out)).symm, rfl⟩
      · have hv' : (zj == v) = false := by simpa using hv
        go_wp2
        go_roundg (len - (j + 1))
        case measure => omega
        case rel =>
          refine ⟨j + 1, by omega, by omega, by go_num, rfl, (show Hid _ from fun i hi => ?_)⟩
          by_cases e : i = j
          · subst e; rw [HZ.out]; exact hv
          · exact A.out i (by omega)
    · have hs := hV.size
      go_wp2
      go_ret
      exact ⟨ret_bool (not_any_eq (fun i hi => A.out i (by omega))).symm, rfl⟩

end Go.Proofs.Ybulkdew
