import Derived.Test.YbulkddgRead
import Derived.Deep.RegionHeld3
namespace Go.Proofs.Ybulkddg
open Go.RowKit
open Go.WideShapes (add_plain)
set_option linter.unusedVariables false

/-- The worlds that decodeRecord passes through: what was there is as it was; its result's block lies there, zero. -/
structure DInv (w W : World) : Prop where
  bel : Below w.heap.size w W
  box : W.heap[w.heap.size]? = some (.cells #[.int .u64 0, .int .i64 0, .int .i64 0] 50 (0, 0))

theorem DInv.start (w : World) : DInv w (w.alloc (.cells #[.int .u64 0, .int .i64 0, .int .i64 0] 50)) :=
  ⟨(Below.refl _ w).alloc (Nat.le_refl _) _, heap_alloc_new w _⟩
theorem DInv.drew {w W : World} (h : DInv w W) : DInv w W.drew := ⟨h.bel.drew, h.box⟩

theorem DInv.call {w : World} (g o n c : Nat) (v : Int) (h0 : 0 ≤ v) (hv : v < 18446744073709551616) (hn : 8 ≤ n) (hg : g < w.heap.size) (hc : ∀ j u, (le8 v)[j]? = some u → w.cell? ⟨g, o + j, none⟩ = some u) (W : World) (hI : DInv w W) :
    Calls Yba.prog 19 #[.agg #[], .slice (some ⟨g, o, none⟩) n c] W fun e w' => e = .returned (.int .u64 v) ∧ DInv w w' ∧ (w'.cell? ⟨w.heap.size, 0, none⟩ = some (.int .u64 0) ∧ w'.cell? ⟨w.heap.size, 1, none⟩ = some (.int .i64 0) ∧ w'.cell? ⟨w.heap.size, 2, none⟩ = some (.int .i64 0)) ∧ (w'.frozen? ⟨w.heap.size, 0, none⟩ = false ∧ w'.frozen? ⟨w.heap.size, 1, none⟩ = false ∧ w'.frozen? ⟨w.heap.size, 2, none⟩ = false) := by
  refine (u64_at g o n c v h0 hv W hn (fun j u hj => (hI.bel.cell (by exact hg)).trans (hc j u hj))).mono ?_
  rintro e w' ⟨rfl, q, rfl⟩
  have hs : w.heap.size < W.heap.size := (Array.getElem?_eq_some_iff.1 hI.box).1
  have hb : ((W.alloc (.cells #[] 57)).drewN q).heap[w.heap.size]? = some (.cells #[.int .u64 0, .int .i64 0, .int .i64 0] 50 (0, 0)) := by
    show (W.alloc (.cells #[] 57)).heap[w.heap.size]? = _
    rw [Below.heap_alloc _ _ _ hs]; exact hI.box
  have hb2 : Below w.heap.size w (W.alloc (.cells #[] 57)) := hI.bel.alloc (by omega) _
  refine ⟨rfl, ⟨⟨hb2.os, hb2.tape, hb2.output, hb2.size, hb2.block⟩, hb⟩, ⟨cell_of_block hb 0, cell_of_block hb 1, cell_of_block hb 2⟩, ?_⟩
  refine ⟨?_, ?_, ?_⟩ <;> simp only [World.frozen?, hb] <;> rfl

set_option maxHeartbeats 400000 in
set_option maxRecDepth 100000 in
theorem decode_at (g o n c : Nat) (h f z : Int) (w : World) (h0 : 0 ≤ h) (h1 : h < 18446744073709551616) (f0 : 0 ≤ f) (f1 : f < 18446744073709551616) (z0 : 0 ≤ z) (z1 : z < 18446744073709551616)
    (hn : 24 ≤ n) (hnc : n ≤ c) (hg : g < w.heap.size)
    (hc : ∀ j u, (le8 h ++ le8 f ++ le8 z)[j]? = some u → w.cell? ⟨g, o + j, none⟩ = some u) :
    Calls Yba.prog 14 #[.slice (some ⟨g, o, none⟩) n c] w fun e w' => e = .returned (.agg #[.int .u64 h, .int .i64 (IntKind.i64.wrap f), .int .i64 (IntKind.i64.wrap z)]) ∧ Below w.heap.size w w' := by
  have U1 := DInv.call g o n c h h0 h1 (by omega) hg (fun j u hj => hc j u (by rw [List.append_assoc, List.getElem?_append_left (List.getElem?_eq_some_iff.1 hj).1]; exact hj))
  have U2 := DInv.call g (o + 8) (n - 8) (c - 8) f f0 f1 (by omega) hg (fun j u hj => by
    have hj8 : j < 8 := (List.getElem?_eq_some_iff.1 hj).1
    rw [Nat.add_assoc]
    exact hc (8 + j) u (by rw [List.append_assoc, List.getElem?_append_right (by simp [le8]), List.getElem?_append_left (by simp [le8]; omega), show 8 + j - (le8 h).length = j by simp [le8]]; exact hj))
  have U3 := DInv.call g (o + 16) (n - 16) (c - 16) z z0 z1 (by omega) hg (fun j u hj => by
    rw [Nat.add_assoc]
    exact hc (16 + j) u (by rw [List.getElem?_append_right (by simp [le8]), show 16 + j - (le8 h ++ le8 f).length = j by simp [le8]]; exact hj))
  have H1 : Hid _ := U1
  have H2 : Hid _ := U2
  have H3 : Hid _ := U3
  clear U1 U2 U3 hc
  have q1 : (8 : Int) ≤ n := by omega
  have q2 : (16 : Int) ≤ n := by omega
  have q3 : ¬ c = 8 := by omega
  have q4 : ¬ c = 16 := by omega
  have hI0 := (DInv.start w)
  have tok2 : True := trivial
  go_enter Yba.func14, Yba.ntmps14
  go_wp2_with fail
  go_region_held3 (fun _ => True) (trivial) (first
    | (go_at_call_of 19 (Value.slice (some ⟨g, o, none⟩) n c); refine (H1.out _ ?_).mono ?_; exact DInv.drew hI0; rintro e w1 ⟨rfl, hI1, hc1, hf1⟩)
    | (go_at_call 19; have _t := tok2; refine (H2.out _ ?_).mono ?_; (first | exact hI1 | exact DInv.drew hI1); rintro e w2 ⟨rfl, hI2, hc2, hf2⟩; clear tok2)
    | (go_at_call 19; refine (H3.out _ ?_).mono ?_; (first | exact hI2 | exact DInv.drew hI2); rintro e w3 ⟨rfl, hI3, hc3, hf3⟩))
  go_wp2
  obtain ⟨d0, d1, d2⟩ := hc3
  have hs3 : w.heap.size < w3.heap.size := (Array.getElem?_eq_some_iff.1 hI3.box).1
  refine bodyPost_ret (v := .agg #[.int .u64 h, .int .i64 (IntKind.i64.wrap f), .int .i64 (IntKind.i64.wrap z)]) (by simp [results, Yba.results14, go_sem, d0, d1, d2]) rfl ⟨rfl, ?_⟩
  exact ((hI3.bel.setCell (Nat.le_refl _) _).setCell (Nat.le_refl _) _).setCell (Nat.le_refl _) _

theorem i64_u64 (o : Int) (h0 : -9223372036854775808 ≤ o) (h1 : o ≤ 9223372036854775807) : IntKind.i64.wrap (IntKind.u64.wrap o) = o := by
  rw [IntKind.wrap_u64, IntKind.wrap_i64]; omega

theorem decode_rec (g p n c : Nat) (h o z : Int) (w : World) (h0 : 0 ≤ h) (h1 : h < 18446744073709551616) (o0 : -9223372036854775808 ≤ o) (o1 : o ≤ 9223372036854775807) (z0 : -9223372036854775808 ≤ z) (z1 : z ≤ 9223372036854775807)
    (hn : 24 ≤ n) (hnc : n ≤ c) (hg : g < w.heap.size)
    (hc : ∀ j u, (le8 h ++ le8 (IntKind.u64.wrap o) ++ le8 (IntKind.u64.wrap z))[j]? = some u → w.cell? ⟨g, p + j, none⟩ = some u) :
    Calls Yba.prog 14 #[.slice (some ⟨g, p, none⟩) n c] w fun e w' => e = .returned (.agg #[.int .u64 h, .int .i64 o, .int .i64 z]) ∧ Below w.heap.size w w' := by
  have a := wrap_u64_bd o
  have b := wrap_u64_bd z
  have := decode_at g p n c h _ _ w h0 h1 a.1 a.2 b.1 b.2 hn hnc hg hc
  rw [i64_u64 o o0 o1, i64_u64 z z0 z1] at this
  exact this
end Go.Proofs.Ybulkddg
