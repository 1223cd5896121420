import Derived.Test.YbulkdfkFmtTop
namespace Go.Proofs.YbulkdfkFmt
open Go.RowKit
set_option linter.unusedVariables false

/-- The world in which 'List' begins to read. -/
abbrev W0 (T : List Int) (d C : Nat) (w : World) : World := (w.alloc (.cells #[.slice (some ⟨d, 0, none⟩) T.length C, .int .i64 0] 72)).alloc (.cells #[.slice none 0 0] 34)

theorem W0_sc {T : List Int} {d C : Nat} {w : World} (ht : ∀ i, i < T.length → w.cell? ⟨d, i, none⟩ = some (.int .u8 (T.getD i 0))) (hd : d < w.heap.size) (hc : T.length ≤ C) (hl : T.length ≤ 1000000) : Sc T d C w.heap.size (W0 T d C w) 0 := by
  refine ⟨?_, fun i hi => ?_, by omega, by simp; omega, hc, hl⟩
  · rw [Below.heap_alloc _ _ _ (by simp)]; exact heap_alloc_new w _
  · rw [World.cell?_of_block ((Below.heap_alloc _ _ _ (by simp; omega)).trans (Below.heap_alloc _ _ _ (by exact hd)))]; exact ht i hi
theorem W0_q (T : List Int) (d C : Nat) (w : World) : (W0 T d C w).heap[w.heap.size + 1]? = some (.cells #[.slice none 0 0] 34 (0, 0)) := by
  have e1 : (w.alloc (.cells #[.slice (some ⟨d, 0, none⟩) T.length C, .int .i64 0] 72)).heap.size = w.heap.size + 1 := by simp
  rw [← e1]; exact heap_alloc_new _ _
theorem W0_below (T : List Int) (d C : Nat) (w : World) : Below w.heap.size w (W0 T d C w) := ((Below.refl _ w).alloc (Nat.le_refl _) _).alloc (by simp) _
theorem W0_size (T : List Int) (d C : Nat) (w : World) : (W0 T d C w).heap.size = w.heap.size + 2 := by simp [W0]

theorem eql_nil24 (w : World) : (binOp .eql 24 .nilIface .nilIface).run Ybaf.prog w = .ok (.bool true) w := by kernel_rfl

set_option maxRecDepth 100000 in
theorem errors_new (s : ByteArray) (w : World) : Calls Ybaf.prog 16 #[.string s] w fun x w' => x = .returned (.iface 81 (.pointer (some ⟨w.heap.size, 0, none⟩))) ∧ Below w.heap.size w w' := by
  go_enter Ybaf.func16, Ybaf.ntmps16
  go_wp2_with fail
  go_ret
  exact ⟨rfl, (Below.refl _ w).alloc (Nat.le_refl _) _⟩

set_option maxRecDepth 100000 in
theorem list_ok {T : List Int} {d C : Nat} {w : World} {n f : Nat} (vals : Nat → List Value) (ht : ∀ i, i < T.length → w.cell? ⟨d, i, none⟩ = some (.int .u8 (T.getD i 0))) (hd : d < w.heap.size) (hc : T.length ≤ C) (hl : T.length ≤ 1000000)
    (h0 : vals 0 = []) (hL : Laid T C d vals n f) (hf : f ≤ T.length) (hend : ∀ i, f ≤ i → i < T.length → isSp (T.getD i 0) = true) :
    Calls Ybaf.prog 11 #[.slice (some ⟨d, 0, none⟩) T.length C] w fun x w' => ∃ sv, x = .returned (.tuple #[sv, .nilIface]) ∧ Below w.heap.size w w' ∧ w'.ownsRow w.heap.size 38 1 sv n (vals n) := by
  have hS := W0_sc ht hd hc hl
  have hq := W0_q T d C w
  have hB := W0_below T d C w
  have hz := W0_size T d C w
  unfold W0 at hz
  have hlen : 0 < T.length := by
    obtain ⟨_, s, hsp, _⟩ := hL
    have := hsp.lt
    omega
  have HE : Hid _ := hend
  clear hend ht
  have hn24 := eql_nil24
  go_enter Ybaf.func11, Ybaf.ntmps11
  go_wp2_with fail
  refine Calls.mono (at_at (T := T) (d := d) (C := C) (o := 0) 91 true hS hlen (beq_of_eq hL.1)) ?_
  rintro x w1 ⟨rfl, hA⟩
  have hq1 : w1.heap[w.heap.size + 1]? = some (.cells #[.slice none 0 0] 34 (0, 0)) := by rw [hA.kp.block _ (by omega) (by omega)]; exact hq
  have hB1 : Below w.heap.size w w1 := hB.trans (hA.kp.below (by omega) (Nat.le_refl _))
  have hz1 := hA.kp.size
  have HA : Hid _ := hA
  clear hA hS hq hB
  go_wp2_with fail
  refine Calls.mono (array_list (n := n) (f := f) vals HA.out.sc hq1 (by omega) (by omega) h0 hL) ?_
  rintro x w2 ⟨rfl, hS2, hLs⟩
  have hB2 : Below w.heap.size w w2 := hB1.trans ⟨hLs.os, hLs.tape, hLs.output, hLs.size, fun i hi => hLs.old i (by omega) (by omega) (by omega)⟩
  have HLs : Hid _ := hLs
  clear hLs hq1
  go_wp2_with fail
  refine Calls.mono (end_yes hS2 hf HE.out) ?_
  rintro x w3 ⟨rfl, hA3⟩
  have hLs := HLs.out.kp hA3.kp (by omega) (by omega)
  obtain ⟨sv, hsv, hown⟩ := hLs.els.ex
  have x0 : w3.cell? ⟨w.heap.size + 1, 0, none⟩ = some sv := cell_of_block hsv 0
  have hB3 : Below w.heap.size w w3 := hB2.trans (hA3.kp.below (by have := hB2.size; omega) (Nat.le_refl _))
  have HO : Hid (w3.ownsRow w.heap.size 38 1 sv n (vals n)) := ⟨hown.1, by
    rcases hown.2 with g3 | ⟨g, cap, cur, a1, a2, a3⟩
    · exact .inl g3
    · exact .inr ⟨g, cap, cur, a1, by omega, a3⟩⟩
  clear hown hLs hsv
  go_wp2_with fail
  go_ret2
  exact ⟨sv, rfl, hB3, HO.out⟩

set_option maxRecDepth 100000 in
theorem list_bad {T : List Int} {d C : Nat} {w : World} {n f : Nat} (vals : Nat → List Value) (ht : ∀ i, i < T.length → w.cell? ⟨d, i, none⟩ = some (.int .u8 (T.getD i 0))) (hd : d < w.heap.size) (hc : T.length ≤ C) (hl : T.length ≤ 1000000)
    (h0 : vals 0 = []) (hL : Laid T C d vals n f) (e : Nat) (hend : Sp T f e) :
    Calls Ybaf.prog 11 #[.slice (some ⟨d, 0, none⟩) T.length C] w fun x w' => ∃ a, x = .returned (.tuple #[.slice none 0 0, .iface 81 (.pointer (some a))]) ∧ Below w.heap.size w w' := by
  have hS := W0_sc ht hd hc hl
  have hq := W0_q T d C w
  have hB := W0_below T d C w
  have hz := W0_size T d C w
  unfold W0 at hz
  have hlen : 0 < T.length := by
    obtain ⟨_, s, hsp, _⟩ := hL
    have := hsp.lt
    omega
  have HE : Hid _ := hend
  clear hend ht
  have hn24 := eql_nil24
  go_enter Ybaf.func11, Ybaf.ntmps11
  go_wp2_with fail
  refine Calls.mono (at_at (T := T) (d := d) (C := C) (o := 0) 91 true hS hlen (beq_of_eq hL.1)) ?_
  rintro x w1 ⟨rfl, hA⟩
  have hq1 : w1.heap[w.heap.size + 1]? = some (.cells #[.slice none 0 0] 34 (0, 0)) := by rw [hA.kp.block _ (by omega) (by omega)]; exact hq
  have hB1 : Below w.heap.size w w1 := hB.trans (hA.kp.below (by omega) (Nat.le_refl _))
  have hz1 := hA.kp.size
  have HA : Hid _ := hA
  clear hA hS hq hB
  go_wp2_with fail
  refine Calls.mono (array_list (n := n) (f := f) vals HA.out.sc hq1 (by omega) (by omega) h0 hL) ?_
  rintro x w2 ⟨rfl, hS2, hLs⟩
  have hB2 : Below w.heap.size w w2 := hB1.trans ⟨hLs.os, hLs.tape, hLs.output, hLs.size, fun i hi => hLs.old i (by omega) (by omega) (by omega)⟩
  have HLs : Hid _ := hLs
  clear hLs hq1
  go_wp2_with fail
  refine Calls.mono (end_no e hS2 HE.out) ?_
  rintro x w3 ⟨rfl, hA3⟩
  have hB3 : Below w.heap.size w w3 := hB2.trans (hA3.kp.below (by have := hB2.size; omega) (Nat.le_refl _))
  go_wp2_with fail
  refine Calls.mono (errors_new _ w3) ?_
  rintro x w4 ⟨rfl, hB4⟩
  go_wp2_with fail
  go_ret2
  exact ⟨_, rfl, hB3.trans (hB4.mono hB3.size)⟩

end Go.Proofs.YbulkdfkFmt
