import Derived.Test.YbulkddgDecode
namespace Go.Proofs.Ybulkddg
open Go.RowKit
open Go.WideShapes (add_plain)
set_option linter.unusedVariables false
set_option maxHeartbeats 400000 in
set_option maxRecDepth 100000 in
theorem ctrip (a0 : Option Addr) (len0 cap0 : Nat) (z0 : List Int) (h o z : Int) (w : World) (w0 : Row .u8 w a0 len0 cap0 z0) (h0 : 0 ≤ h) (hv : h < 18446744073709551616) (o0 : -9223372036854775808 ≤ o) (o1 : o ≤ 9223372036854775807) (zz0 : -9223372036854775808 ≤ z) (zz1 : z ≤ 9223372036854775807) (hlen : len0 ≤ 1024) :
    Calls Yba.prog 6 #[.slice a0 len0 cap0, .int .u64 h, .int .i64 o, .int .i64 z] w fun e w' => e = .returned (.bool true) ∧ Below w.heap.size w w' := by
  have hl : ¬ (1024 : Int) < (len0 : Int) := by omega
  go_enter Yba.func6, Yba.ntmps6
  go_wp2_with fail
  refine (clone_any a0 len0 cap0 z0 w w0 hlen).mono ?_
  rintro e w1 ⟨v1, rfl, hown1, hb1⟩
  have hs1 := hb1.size
  go_wp2_with fail
  refine (appendTo w.heap.size len0 h o z h0 hv v1 _ _ (hown1.alloc _) (by simp; omega) hlen).mono ?_
  rintro e w2 ⟨v2, rfl, hown2, hb2, hk2⟩
  have hB : Below w.heap.size w w2 := (hb1.alloc (by omega) _).trans hb2
  have hbox2 := hk2 w1.heap.size 50 _ (0, 0) (by decide) (heap_alloc_new w1 _)
  clear hown1 hb1 hb2 hk2
  have hcapn : ∀ g cap, v2 = .slice (some ⟨g, 0, none⟩) (len0 + 24) cap → len0 + 24 ≤ cap ∧ g < w2.heap.size := fun g cap hv2 => by
    subst hv2
    rcases hown2.2 with ⟨hh, _⟩ | ⟨g', cap', cur, hh, _, hg', hn, _⟩
    · cases hh
    · cases hh
      exact ⟨hn, (Array.getElem?_eq_some_iff.1 hg').1⟩
  obtain ⟨g, cap, hv2, hcell, hout⟩ := out_cells w0 hown2
  obtain ⟨hcap, hgs⟩ := hcapn g cap hv2
  rw [hv2]
  clear hown2 hv2 hcapn
  have HO : Hid _ := hout
  have HC : Hid _ := hcell
  have HB : Hid _ := hbox2
  clear hcell hout hbox2
  have q1 : ¬ cap = len0 := by omega
  have q2 : (len0 : Int) ≤ (len0 : Int) + 24 := by omega
  have q3 : (len0 : Int) ≤ (cap : Int) := by omega
  go_wp2_with fail
  refine (equal_same _ a0 len0 cap cap0 z0 w2 hlen (fun hp => ?_)).mono ?_
  · obtain ⟨b, off, rfl, hbw, hc⟩ := w0.at hp
    have hz := w0.le
    refine ⟨g, 0, b, off, rfl, rfl, fun j hj => ⟨by rw [Nat.zero_add]; exact HC.out j hj, (hB.cell (by exact hbw)).trans (hc j (by omega))⟩⟩
  rintro e w3' ⟨rfl, q, hw3⟩
  have hB3 : Below w.heap.size w w3' := by rw [hw3]; exact ⟨hB.os, hB.tape, hB.output, hB.size, hB.block⟩
  have HO3 : Hid (∀ j u, (le8 h ++ le8 (IntKind.u64.wrap o) ++ le8 (IntKind.u64.wrap z))[j]? = some u → w3'.cell? ⟨g, len0 + j, none⟩ = some u) := by rw [hw3]; exact HO
  have HB3 : Hid (w3'.heap[w1.heap.size]? = some (.cells #[.int .u64 h, .int .i64 o, .int .i64 z] 50 (0, 0))) := by rw [hw3]; exact HB
  have hgs3 : g < w3'.heap.size := by rw [hw3]; exact hgs
  clear HO HC HB hw3 hB hgs
  go_wp2_with fail
  have h24 : len0 + 24 - len0 = 24 := by omega
  refine (decode_rec g len0 _ _ h o z w3' h0 hv o0 o1 zz0 zz1 (by omega) (by omega) hgs3 HO3.out).mono ?_
  rintro e w4 ⟨rfl, hb4⟩
  have hlt4 : w1.heap.size < w3'.heap.size := (Array.getElem?_eq_some_iff.1 HB3.out).1
  have hbox4 : w4.heap[w1.heap.size]? = some (.cells #[.int .u64 h, .int .i64 o, .int .i64 z] 50 (0, 0)) := (hb4.block _ hlt4).trans HB3.out
  have hs4 := hb4.size
  have hs3 := hB3.size
  have hB4 : Below w.heap.size w w4 := hB3.trans (hb4.mono hs3)
  have hne : ¬ w4.heap.size = w1.heap.size := by omega
  have hlt5 : w1.heap.size < w4.heap.size := by omega
  have c0 : ∀ ob, (w4.alloc ob).cell? ⟨w1.heap.size, 0, none⟩ = some (.int .u64 h) := fun ob => Lib.cell?_alloc_some _ (cell_of_block hbox4 0)
  have c1 : ∀ ob, (w4.alloc ob).cell? ⟨w1.heap.size, 1, none⟩ = some (.int .i64 o) := fun ob => Lib.cell?_alloc_some _ (cell_of_block hbox4 1)
  have c2 : ∀ ob, (w4.alloc ob).cell? ⟨w1.heap.size, 2, none⟩ = some (.int .i64 z) := fun ob => Lib.cell?_alloc_some _ (cell_of_block hbox4 2)
  clear hbox4 HB3 HO3 hb4
  go_wp2_with fail
  go_ret
  exact ⟨rfl, hB4.alloc (by omega) _⟩
end Go.Proofs.Ybulkddg
