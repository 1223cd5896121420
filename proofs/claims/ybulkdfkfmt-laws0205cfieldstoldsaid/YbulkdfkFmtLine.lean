import Derived.Test.YbulkdfkFmtTimeOf
import Derived.Test.YbulkdfkFmtHex
namespace Go.Proofs.YbulkdfkFmt
open Go.RowKit Go.Extern.Stop Go.Stop Go.Extern
set_option linter.unusedVariables false

structure Hdr where
  len : Int
  h1 : Int
  h2 : Int
  l1 : Int
  l2 : Int
  o0 : Int
  o1 : Int
  o2 : Int
  o3 : Int
  oa : Bool
  o5 : Int
  o6 : Int
  a0 : Int
  a1 : Int
  a2 : Int
  a3 : Int
  aa : Bool
  a5 : Int
  a6 : Int
  recs : Int
  seq : Int
  clo : Int
  lost : Int
  route : Value
  priv : Value
def Hdr.cells (x : Hdr) : Array Value := #[.int .u32 x.len, .int .i64 x.h1, .int .i64 x.h2, .int .i64 x.l1, .int .i64 x.l2, .int .i64 x.o0, .int .i64 x.o1, .int .i64 x.o2, .int .i64 x.o3, .bool x.oa, .int .i64 x.o5, .int .i64 x.o6,
  .int .i64 x.a0, .int .i64 x.a1, .int .i64 x.a2, .int .i64 x.a3, .bool x.aa, .int .i64 x.a5, .int .i64 x.a6, .int .u32 x.recs, .int .u32 x.seq, .int .u8 x.clo, .int .u64 0, .int .u64 0, .pointer none, .int .u8 x.lost, x.route, x.priv]

structure St (w W : World) (cs : Array Value) : Prop where
  below : Below w.heap.size w W
  block : W.heap[w.heap.size]? = some (.cells cs 65 (0, 0))
theorem St.set {w W : World} {cs : Array Value} (h : St w W cs) (i : Nat) (v : Value) : St w (W.setCell ⟨w.heap.size, i, none⟩ v) (cs.setIfInBounds i v) :=
  ⟨h.below.setCell (by simp) v, setBlock h.block i v⟩
theorem St.call {w W W' : World} {cs : Array Value} (h : St w W cs) (hb : Below W.heap.size W W') : St w W' cs := by
  have hl : w.heap.size < W.heap.size := (Array.getElem?_eq_some_iff.1 h.block).1
  exact ⟨h.below.trans (hb.mono (by omega)), (hb.block _ hl).trans h.block⟩
theorem St.drew {w W : World} {cs : Array Value} (h : St w W cs) : St w W.drew cs := ⟨h.below.drew, h.block⟩
theorem St.drewN {w W : World} {cs : Array Value} (h : St w W cs) (q : Nat) : St w (W.drewN q) cs := by
  refine ⟨?_, ?_⟩
  · exact ⟨h.below.os, h.below.tape, h.below.output, h.below.size, h.below.block⟩
  · exact h.block
theorem St.alloc (w : World) (cs : Array Value) : St w (w.alloc (.cells cs 65 (0, 0))) cs :=
  ⟨(Below.refl _ w).alloc (Nat.le_refl _) _, by show (w.heap.push _)[w.heap.size]? = _; simp⟩

set_option maxHeartbeats 2000000 in
set_option maxRecDepth 100000 in
theorem headerLine (F : Interp) (x : Hdr) (a1 a2 : Option Addr) (n1 c1 n2 c2 : Nat) (z1 z2 : List Int) (hb : Nat) (w : World) (hF : F.answers w.tape) (hz : w.cell? ⟨2, 0, none⟩ = some (.pointer none))
    (r1 : x.route = .slice a1 n1 c1) (r2 : x.priv = .slice a2 n2 c2) (s1 : Src w a1 n1 c1 z1) (s2 : Src w a2 n2 c2 z2) (b1 : n1 ≤ 1024) (b2 : n2 ≤ 1024)
    (hH : w.heap[hb]? = some (.cells x.cells 57 (0, 0))) :
    Calls Ybaf.prog 14 #[.pointer (some ⟨hb, 0, none⟩)] w fun e w' => Below w.heap.size w w' ∧ ∃ g s t u, e = .returned (.pointer (some ⟨g, 0, none⟩)) ∧ w.heap.size ≤ g ∧
      w'.heap[g]? = some (.cells #[.int .u32 x.len, .int .i64 (54 + n1 + n2), .int .i64 x.h1, .int .i64 x.h2, .int .i64 x.l1, .int .i64 x.l2, .int .i64 x.o0, .int .i64 x.o1, .int .i64 x.o2, .int .i64 x.o3, .string s, .int .i64 x.a0, .int .i64 x.a1, .int .i64 x.a2, .int .i64 x.a3, .string t, .int .u32 x.recs, .int .u32 x.seq, .int .u8 x.clo, .string u, .int .u8 x.lost, .string (hexOf z1), .string (hexOf z2)] 65 (0, 0)) := by
  have hlt : hb < w.heap.size := (Array.getElem?_eq_some_iff.1 hH).1
  have hne : w.heap.size ≠ hb := by omega
  have hne' : hb ≠ w.heap.size := by omega
  have HC : Hid (∀ {W : World} {cs : Array Value}, St w W cs → ∀ i, W.cell? ⟨hb, i, none⟩ = x.cells[i]?) := fun h i => (h.below.cell hlt).trans (cell_of_block hH i)
  have p0 : w.cell? ⟨hb, 0, none⟩ = some (.int .u32 x.len) := cell_of_block hH 0
  have h2lt : 2 < w.heap.size := World.block_lt_of_cell? w _ hz
  have HZ : Hid (w.cell? ⟨2, 0, none⟩ = some (.pointer none)) := hz
  have R1 : Hid (x.route = .slice a1 n1 c1) := r1
  have R2 : Hid (x.priv = .slice a2 n2 c2) := r2
  have S1 : Hid (Src w a1 n1 c1 z1) := s1
  have S2 : Hid (Src w a2 n2 c2 z2) := s2
  clear hH hz r1 r2 s1 s2
  go_enter Ybaf.func14, Ybaf.ntmps14
  go_wp2_with fail
  refine Calls.mono (size_any hb a1 a2 n1 c1 n2 c2 _ ?_ ?_ b1 b2) ?_
  · rw [← R1.out]; exact HC.out (St.alloc w _) 26
  · rw [← R2.out]; exact HC.out (St.alloc w _) 27
  rintro e W1 ⟨rfl, q, hW⟩
  have T1 := (St.alloc w #[.int .u32 x.len, .int .i64 0, .int .i64 0, .int .i64 0, .int .i64 0, .int .i64 0, .int .i64 0, .int .i64 0, .int .i64 0, .int .i64 0, .string ⟨#[]⟩, .int .i64 0, .int .i64 0, .int .i64 0, .int .i64 0, .string ⟨#[]⟩, .int .u32 0, .int .u32 0, .int .u8 0, .string ⟨#[]⟩, .int .u8 0, .string ⟨#[]⟩, .string ⟨#[]⟩]).drewN q
  rw [← hW] at T1
  clear hW
  have k1 : W1.cell? ⟨hb, 1, none⟩ = some (.int .i64 x.h1) := HC.out T1 1
  have k2 : W1.cell? ⟨hb, 2, none⟩ = some (.int .i64 x.h2) := HC.out T1 2
  have k3 : W1.cell? ⟨hb, 3, none⟩ = some (.int .i64 x.l1) := HC.out T1 3
  have k4 : W1.cell? ⟨hb, 4, none⟩ = some (.int .i64 x.l2) := HC.out T1 4
  have m1 := cell_of_block T1.block
  have f1 := frozen_of_block T1.block
  go_wp2_with fail
  go_region_held3 (fun W => W.cell? ⟨hb, 1, none⟩ = some (.int .i64 x.h1) ∧ W.cell? ⟨hb, 2, none⟩ = some (.int .i64 x.h2)) (go_keep) (fail)
  go_wp2_with fail
  go_region_held3 (fun W => W.cell? ⟨hb, 3, none⟩ = some (.int .i64 x.l1) ∧ W.cell? ⟨hb, 4, none⟩ = some (.int .i64 x.l2)) (go_keep) (fail)
  have o0 : W1.cell? ⟨hb, 5, none⟩ = some (.int .i64 x.o0) := HC.out T1 5
  have o1 : W1.cell? ⟨hb, 6, none⟩ = some (.int .i64 x.o1) := HC.out T1 6
  have o2 : W1.cell? ⟨hb, 7, none⟩ = some (.int .i64 x.o2) := HC.out T1 7
  have o3 : W1.cell? ⟨hb, 8, none⟩ = some (.int .i64 x.o3) := HC.out T1 8
  have o4 : W1.cell? ⟨hb, 9, none⟩ = some (.bool x.oa) := HC.out T1 9
  have o5 : W1.cell? ⟨hb, 10, none⟩ = some (.int .i64 x.o5) := HC.out T1 10
  have o6 : W1.cell? ⟨hb, 11, none⟩ = some (.int .i64 x.o6) := HC.out T1 11
  go_wp2_with fail
  have U1 := (((((T1.set 1 (.int .i64 (54 + n1 + n2))).set 2 (.int .i64 x.h1)).set 3 (.int .i64 x.h2)).set 4 (.int .i64 x.l1)).set 5 (.int .i64 x.l2)).drew.drew
  simp only [List.setIfInBounds_toArray, List.set_cons_zero, List.set_cons_succ] at U1
  refine Calls.mono (timeOf_any F _ _ _ _ _ _ _ _ (by rw [U1.below.tape]; exact hF)) ?_
  rintro e W2 ⟨s, rfl, hb2⟩
  have T2 := U1.call hb2
  clear U1 hb2 T1 k1 k2 k3 k4 m1 f1 o0 o1 o2 o3 o4 o5 o6
  have o0 : W2.cell? ⟨hb, 12, none⟩ = some (.int .i64 x.a0) := HC.out T2 12
  have o1 : W2.cell? ⟨hb, 13, none⟩ = some (.int .i64 x.a1) := HC.out T2 13
  have o2 : W2.cell? ⟨hb, 14, none⟩ = some (.int .i64 x.a2) := HC.out T2 14
  have o3 : W2.cell? ⟨hb, 15, none⟩ = some (.int .i64 x.a3) := HC.out T2 15
  have o4 : W2.cell? ⟨hb, 16, none⟩ = some (.bool x.aa) := HC.out T2 16
  have o5 : W2.cell? ⟨hb, 17, none⟩ = some (.int .i64 x.a5) := HC.out T2 17
  have o6 : W2.cell? ⟨hb, 18, none⟩ = some (.int .i64 x.a6) := HC.out T2 18
  have m1 := cell_of_block T2.block
  have f1 := frozen_of_block T2.block
  go_wp2_with fail
  have U2 := (((((T2.set 6 (.int .i64 x.o0)).set 7 (.int .i64 x.o1)).set 8 (.int .i64 x.o2)).set 9 (.int .i64 x.o3)).set 10 (.string s))
  simp only [List.setIfInBounds_toArray, List.set_cons_zero, List.set_cons_succ] at U2
  refine Calls.mono (timeOf_any F _ _ _ _ _ _ _ _ (by rw [U2.below.tape]; exact hF)) ?_
  rintro e W3 ⟨t, rfl, hb3⟩
  have T3 := U2.call hb3
  clear U2 hb3 T2 m1 f1 o0 o1 o2 o3 o4 o5 o6
  have o0 : W3.cell? ⟨hb, 19, none⟩ = some (.int .u32 x.recs) := HC.out T3 19
  have o1 : W3.cell? ⟨hb, 20, none⟩ = some (.int .u32 x.seq) := HC.out T3 20
  have o2 : W3.cell? ⟨hb, 21, none⟩ = some (.int .u8 x.clo) := HC.out T3 21
  have o3 : W3.cell? ⟨hb, 22, none⟩ = some (.int .u64 0) := HC.out T3 22
  have o4 : W3.cell? ⟨hb, 23, none⟩ = some (.int .u64 0) := HC.out T3 23
  have o5 : W3.cell? ⟨hb, 24, none⟩ = some (.pointer none) := HC.out T3 24
  have m1 := cell_of_block T3.block
  have f1 := frozen_of_block T3.block
  go_wp2_with fail
  have U3 := ((((((((T3.set 11 (.int .i64 x.a0)).set 12 (.int .i64 x.a1)).set 13 (.int .i64 x.a2)).set 14 (.int .i64 x.a3)).set 15 (.string t)).set 16 (.int .u32 x.recs)).set 17 (.int .u32 x.seq)).set 18 (.int .u8 x.clo))
  simp only [List.setIfInBounds_toArray, List.set_cons_zero, List.set_cons_succ] at U3
  refine Calls.mono (string_zero _ ((U3.below.cell h2lt).trans HZ.out)) ?_
  rintro e W4 ⟨u, rfl, hb4⟩
  have T4 := U3.call hb4
  clear U3 hb4 T3 m1 f1 o0 o1 o2 o3 o4 o5
  have o0 : W4.cell? ⟨hb, 25, none⟩ = some (.int .u8 x.lost) := HC.out T4 25
  have o1 : W4.cell? ⟨hb, 26, none⟩ = some (.slice a1 n1 c1) := by rw [← R1.out]; exact HC.out T4 26
  have m1 := cell_of_block T4.block
  have f1 := frozen_of_block T4.block
  go_wp2_with fail
  have U4 := ((T4.set 19 (.string u)).set 20 (.int .u8 x.lost))
  simp only [List.setIfInBounds_toArray, List.set_cons_zero, List.set_cons_succ] at U4
  refine Calls.mono (encodeToString a1 n1 c1 z1 _ (S1.out.below U4.below (Nat.le_refl _)) b1) ?_
  rintro e W5 ⟨rfl, hb5⟩
  have T5 := U4.call hb5
  clear U4 hb5 T4 m1 f1 o0 o1
  have o1 : W5.cell? ⟨hb, 27, none⟩ = some (.slice a2 n2 c2) := by rw [← R2.out]; exact HC.out T5 27
  have m1 := cell_of_block T5.block
  have f1 := frozen_of_block T5.block
  go_wp2_with fail
  have U5 := T5.set 21 (.string (hexOf z1))
  simp only [List.setIfInBounds_toArray, List.set_cons_zero, List.set_cons_succ] at U5
  refine Calls.mono (encodeToString a2 n2 c2 z2 _ (S2.out.below U5.below (Nat.le_refl _)) b2) ?_
  rintro e W6 ⟨rfl, hb6⟩
  have T6 := U5.call hb6
  clear U5 hb6 T5 m1 f1 o1
  have m1 := cell_of_block T6.block
  have f1 := frozen_of_block T6.block
  go_wp2_with fail
  have U6 := T6.set 22 (.string (hexOf z2))
  simp only [List.setIfInBounds_toArray, List.set_cons_zero, List.set_cons_succ] at U6
  go_ret
  exact ⟨U6.below, _, s, t, u, rfl, Nat.le_refl _, U6.block⟩
end Go.Proofs.YbulkdfkFmt
