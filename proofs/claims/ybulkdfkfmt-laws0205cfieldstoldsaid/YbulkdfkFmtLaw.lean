import Derived.Test.YbulkdfkFmtLine
namespace Go.Proofs.YbulkdfkFmt
open Go.RowKit Go.Extern.Stop Go.Stop Go.Extern
set_option linter.unusedVariables false

def inCells (len h1 h2 l1 l2 o0 o1 o2 o3 : Int) (oa : Bool) (o5 o6 a0 a1 a2 a3 recs seq clo lost : Int) (p1 : Option Addr) (n1 c1 : Nat) (p2 : Option Addr) (n2 c2 : Nat) : Array Value :=
  #[.int .u32 len, .int .i64 h1, .int .i64 h2, .int .i64 l1, .int .i64 l2, .int .i64 o0, .int .i64 o1, .int .i64 o2, .int .i64 o3, .bool oa, .int .i64 o5, .int .i64 o6, .int .i64 a0, .int .i64 a1, .int .i64 a2, .int .i64 a3, .int .u32 recs, .int .u32 seq, .int .u8 clo, .int .u8 lost, .slice p1 n1 c1, .slice p2 n2 c2]

theorem gen5 {p : World → Prop} {W : World} {a b c d e : Nat} (R : World → Prop) (hR : R (((((W.drewN a).drewN b).drewN c).drewN d).drewN e)) (h : ∀ W2, R W2 → p W2) : p (((((W.drewN a).drewN b).drewN c).drewN d).drewN e) := h _ hR

set_option maxHeartbeats 4000000 in
set_option maxRecDepth 100000 in
theorem law_small (F : Interp) (len h1 h2 l1 l2 o0 o1 o2 o3 : Int) (oa : Bool) (o5 o6 a0 a1 a2 a3 recs seq clo lost : Int) (p1 : Option Addr) (n1 c1 : Nat) (p2 : Option Addr) (n2 c2 : Nat) (z1 z2 : List Int) (w : World) (hF : F.answers w.tape) (hz : w.cell? ⟨2, 0, none⟩ = some (.pointer none))
    (s1 : Src w p1 n1 c1 z1) (s2 : Src w p2 n2 c2 z2) (b1 : n1 ≤ 1024) (b2 : n2 ≤ 1024) :
    Calls Ybaf.prog 7 #[.agg #[.int .u32 len, .int .i64 h1, .int .i64 h2, .int .i64 l1, .int .i64 l2, .int .i64 o0, .int .i64 o1, .int .i64 o2, .int .i64 o3, .bool oa, .int .i64 o5, .int .i64 o6, .int .i64 a0, .int .i64 a1, .int .i64 a2, .int .i64 a3, .int .u32 recs, .int .u32 seq, .int .u8 clo, .int .u8 lost, .slice p1 n1 c1, .slice p2 n2 c2]] w fun e w' => e = .returned (.bool true) ∧ Below w.heap.size w w' := by
  have HF : Hid (F.answers w.tape) := hF
  have HZ : Hid (w.cell? ⟨2, 0, none⟩ = some (.pointer none)) := hz
  have S1 : Hid (Src w p1 n1 c1 z1) := s1
  have S2 : Hid (Src w p2 n2 c2 z2) := s2
  clear hF hz s1 s2
  have HC1 : Hid (∀ W, Below w.heap.size w W → Calls Ybaf.prog 15 #[.slice p1 n1 c1] W fun e w' => e = .returned (.string (hexOf z1)) ∧ Below W.heap.size W w') := fun W h => chex p1 n1 c1 z1 W (S1.out.below h (Nat.le_refl _)) b1
  have HC2 : Hid (∀ W, Below w.heap.size w W → Calls Ybaf.prog 15 #[.slice p2 n2 c2] W fun e w' => e = .returned (.string (hexOf z2)) ∧ Below W.heap.size W w') := fun W h => chex p2 n2 c2 z2 W (S2.out.below h (Nat.le_refl _)) b2
  have g1 : ¬ (n1 : Int) > 1024 := by omega
  have g2 : ¬ (n2 : Int) > 1024 := by omega
  go_enter Ybaf.func7, Ybaf.ntmps7
  go_wp2_with fail
  have hB0 : Below w.heap.size w ((w.alloc (.cells #[.int .u32 len, .int .i64 h1, .int .i64 h2, .int .i64 l1, .int .i64 l2, .int .i64 o0, .int .i64 o1, .int .i64 o2, .int .i64 o3, .bool oa, .int .i64 o5, .int .i64 o6, .int .i64 a0, .int .i64 a1, .int .i64 a2, .int .i64 a3, .int .u32 recs, .int .u32 seq, .int .u8 clo, .int .u8 lost, .slice p1 n1 c1, .slice p2 n2 c2] 42)).alloc (.cells (Hdr.mk len h1 h2 l1 l2 o0 o1 o2 o3 oa o5 o6 a0 a1 a2 a3 false 0 0 recs seq clo lost (.slice p1 n1 c1) (.slice p2 n2 c2)).cells 57)) := ((Below.refl _ w).alloc (Nat.le_refl _) _).alloc (by simp) _
  have h2lt : 2 < w.heap.size := World.block_lt_of_cell? w _ HZ.out
  refine Calls.mono (headerLine F (Hdr.mk len h1 h2 l1 l2 o0 o1 o2 o3 oa o5 o6 a0 a1 a2 a3 false 0 0 recs seq clo lost (.slice p1 n1 c1) (.slice p2 n2 c2)) p1 p2 n1 c1 n2 c2 z1 z2 (w.heap.size + 1) _ (by exact HF.out) ((hB0.cell h2lt).trans HZ.out) rfl rfl (S1.out.below hB0 (Nat.le_refl _)) (S2.out.below hB0 (Nat.le_refl _)) b1 b2 ?_) ?_
  · show ((w.heap.push _).push _)[w.heap.size + 1]? = _
    rw [Array.getElem?_push, if_pos (by simp)]
    rfl
  rintro e W1 ⟨hB1, g, s, t, u, rfl, hge, hG⟩
  have hX : W1.heap[w.heap.size]? = some (.cells #[.int .u32 len, .int .i64 h1, .int .i64 h2, .int .i64 l1, .int .i64 l2, .int .i64 o0, .int .i64 o1, .int .i64 o2, .int .i64 o3, .bool oa, .int .i64 o5, .int .i64 o6, .int .i64 a0, .int .i64 a1, .int .i64 a2, .int .i64 a3, .int .u32 recs, .int .u32 seq, .int .u8 clo, .int .u8 lost, .slice p1 n1 c1, .slice p2 n2 c2] 42 (0, 0)) := by
    rw [hB1.block _ (by simp; omega)]
    show ((w.heap.push _).push _)[w.heap.size]? = _
    rw [Array.getElem?_push, if_neg (by simp), Array.getElem?_push, if_pos rfl]
  have HB : Hid (Below w.heap.size w W1) := hB0.trans (hB1.mono (by simp; omega))
  clear hB0 hB1 hge
  have e0 : W1.cell? ⟨w.heap.size, 0, none⟩ = some (.int .u32 len) := cell_of_block hX 0
  have e1 : W1.cell? ⟨w.heap.size, 1, none⟩ = some (.int .i64 h1) := cell_of_block hX 1
  have e2 : W1.cell? ⟨w.heap.size, 2, none⟩ = some (.int .i64 h2) := cell_of_block hX 2
  have e3 : W1.cell? ⟨w.heap.size, 3, none⟩ = some (.int .i64 l1) := cell_of_block hX 3
  have e4 : W1.cell? ⟨w.heap.size, 4, none⟩ = some (.int .i64 l2) := cell_of_block hX 4
  have e5 : W1.cell? ⟨w.heap.size, 5, none⟩ = some (.int .i64 o0) := cell_of_block hX 5
  have e6 : W1.cell? ⟨w.heap.size, 6, none⟩ = some (.int .i64 o1) := cell_of_block hX 6
  have e7 : W1.cell? ⟨w.heap.size, 7, none⟩ = some (.int .i64 o2) := cell_of_block hX 7
  have e8 : W1.cell? ⟨w.heap.size, 8, none⟩ = some (.int .i64 o3) := cell_of_block hX 8
  have e12 : W1.cell? ⟨w.heap.size, 12, none⟩ = some (.int .i64 a0) := cell_of_block hX 12
  have e13 : W1.cell? ⟨w.heap.size, 13, none⟩ = some (.int .i64 a1) := cell_of_block hX 13
  have e14 : W1.cell? ⟨w.heap.size, 14, none⟩ = some (.int .i64 a2) := cell_of_block hX 14
  have e15 : W1.cell? ⟨w.heap.size, 15, none⟩ = some (.int .i64 a3) := cell_of_block hX 15
  have e16 : W1.cell? ⟨w.heap.size, 16, none⟩ = some (.int .u32 recs) := cell_of_block hX 16
  have e17 : W1.cell? ⟨w.heap.size, 17, none⟩ = some (.int .u32 seq) := cell_of_block hX 17
  have e18 : W1.cell? ⟨w.heap.size, 18, none⟩ = some (.int .u8 clo) := cell_of_block hX 18
  have e19 : W1.cell? ⟨w.heap.size, 19, none⟩ = some (.int .u8 lost) := cell_of_block hX 19
  have e20 : W1.cell? ⟨w.heap.size, 20, none⟩ = some (.slice p1 n1 c1) := cell_of_block hX 20
  have e21 : W1.cell? ⟨w.heap.size, 21, none⟩ = some (.slice p2 n2 c2) := cell_of_block hX 21
  have g0 : W1.cell? ⟨g, 0, none⟩ = some (.int .u32 len) := cell_of_block hG 0
  have g1 : W1.cell? ⟨g, 1, none⟩ = some (.int .i64 (54 + n1 + n2)) := cell_of_block hG 1
  have g2 : W1.cell? ⟨g, 2, none⟩ = some (.int .i64 h1) := cell_of_block hG 2
  have g3 : W1.cell? ⟨g, 3, none⟩ = some (.int .i64 h2) := cell_of_block hG 3
  have g4 : W1.cell? ⟨g, 4, none⟩ = some (.int .i64 l1) := cell_of_block hG 4
  have g5 : W1.cell? ⟨g, 5, none⟩ = some (.int .i64 l2) := cell_of_block hG 5
  have g6 : W1.cell? ⟨g, 6, none⟩ = some (.int .i64 o0) := cell_of_block hG 6
  have g7 : W1.cell? ⟨g, 7, none⟩ = some (.int .i64 o1) := cell_of_block hG 7
  have g8 : W1.cell? ⟨g, 8, none⟩ = some (.int .i64 o2) := cell_of_block hG 8
  have g9 : W1.cell? ⟨g, 9, none⟩ = some (.int .i64 o3) := cell_of_block hG 9
  have g11 : W1.cell? ⟨g, 11, none⟩ = some (.int .i64 a0) := cell_of_block hG 11
  have g12 : W1.cell? ⟨g, 12, none⟩ = some (.int .i64 a1) := cell_of_block hG 12
  have g13 : W1.cell? ⟨g, 13, none⟩ = some (.int .i64 a2) := cell_of_block hG 13
  have g14 : W1.cell? ⟨g, 14, none⟩ = some (.int .i64 a3) := cell_of_block hG 14
  have g16 : W1.cell? ⟨g, 16, none⟩ = some (.int .u32 recs) := cell_of_block hG 16
  have g17 : W1.cell? ⟨g, 17, none⟩ = some (.int .u32 seq) := cell_of_block hG 17
  have g18 : W1.cell? ⟨g, 18, none⟩ = some (.int .u8 clo) := cell_of_block hG 18
  have g20 : W1.cell? ⟨g, 20, none⟩ = some (.int .u8 lost) := cell_of_block hG 20
  have g21 : W1.cell? ⟨g, 21, none⟩ = some (.string (hexOf z1)) := cell_of_block hG 21
  have g22 : W1.cell? ⟨g, 22, none⟩ = some (.string (hexOf z2)) := cell_of_block hG 22
  have HX : Hid (W1.heap[w.heap.size]? = some (.cells #[.int .u32 len, .int .i64 h1, .int .i64 h2, .int .i64 l1, .int .i64 l2, .int .i64 o0, .int .i64 o1, .int .i64 o2, .int .i64 o3, .bool oa, .int .i64 o5, .int .i64 o6, .int .i64 a0, .int .i64 a1, .int .i64 a2, .int .i64 a3, .int .u32 recs, .int .u32 seq, .int .u8 clo, .int .u8 lost, .slice p1 n1 c1, .slice p2 n2 c2] 42 (0, 0))) := hX
  have HG := (show Hid _ from hG)
  clear hX hG
  have y1 : IntKind.i64.wrap (54 + (n1 : Int)) = 54 + n1 := by rw [IntKind.wrap_i64]; omega
  have y2 : IntKind.i64.wrap (54 + (n1 : Int) + n2) = 54 + n1 + n2 := by rw [IntKind.wrap_i64]; omega
  go_wp2_with fail
  go_quiet (fail)
  go_wp2_with fail
  go_quiet (fail)
  go_wp2_with fail
  go_quiet (fail)
  go_wp2_with fail
  go_quiet (fail)
  go_wp2_with fail
  go_quiet (fail)
  go_wp2_with fail
  refine gen5 (p := fun W => Code.wp _ _ _ _ W) (fun W2 => (W2.cell? ⟨g, 21, none⟩ = some (.string (hexOf z1)) ∧ W2.cell? ⟨g, 22, none⟩ = some (.string (hexOf z2)) ∧ W2.cell? ⟨w.heap.size, 20, none⟩ = some (.slice p1 n1 c1) ∧ W2.cell? ⟨w.heap.size, 21, none⟩ = some (.slice p2 n2 c2)) ∧ Hid (Below w.heap.size w W2)) ?_ ?_
  · exact ⟨⟨g21, g22, e20, e21⟩, ⟨HB.out.os, HB.out.tape, HB.out.output, HB.out.size, HB.out.block⟩⟩
  rintro W2 ⟨⟨x0, x1, x2, x3⟩, HB2⟩
  clear HB e0 e1 e2 e3 e4 e5 e6 e7 e8 e12 e13 e14 e15 e16 e17 e18 e19 e20 e21 g0 g1 g2 g3 g4 g5 g6 g7 g8 g9 g11 g12 g13 g14 g16 g17 g18 g20 g21 g22 HX HG
  go_region_held3 (fun W => W.cell? ⟨g, 21, none⟩ = some (.string (hexOf z1)) ∧ W.cell? ⟨g, 22, none⟩ = some (.string (hexOf z2)) ∧ W.cell? ⟨w.heap.size, 20, none⟩ = some (.slice p1 n1 c1) ∧ W.cell? ⟨w.heap.size, 21, none⟩ = some (.slice p2 n2 c2)) (go_keep)
    (first
      | (have hq := HB3.out; go_at_call 15; refine Calls.mono (HC2.out _ hq) ?_; rintro e w3 ⟨rfl, hb3⟩; have v0 := keptCell hb3 u0; have v1 := keptCell hb3 u1; have v2 := keptCell hb3 u2; have v3 := keptCell hb3 u3; have HB4 : Hid (Below w.heap.size w w3) := Below.trans (b := w2) hq ⟨hb3.os, hb3.tape, hb3.output, hb3.size, fun k hk => hb3.block k (Nat.lt_of_lt_of_le hk hq.size)⟩; clear hq)
      | (go_at_call 15; refine Calls.mono (HC1.out _ HB2.out.drew) ?_; rintro e w2 ⟨rfl, hb2⟩; have u0 := keptCell hb2 x0; have u1 := keptCell hb2 x1; have u2 := keptCell hb2 x2; have u3 := keptCell hb2 x3; have HB3 : Hid (Below w.heap.size w w2) := Below.trans (b := W2) HB2.out ⟨hb2.os, hb2.tape, hb2.output, hb2.size, fun k hk => hb2.block k (Nat.lt_of_lt_of_le hk HB2.out.size)⟩))
  go_wp2
  go_ret
  exact ⟨rfl, HB4.out⟩

set_option maxHeartbeats 4000000 in
set_option maxRecDepth 100000 in
theorem law_big1 (len h1 h2 l1 l2 o0 o1 o2 o3 : Int) (oa : Bool) (o5 o6 a0 a1 a2 a3 recs seq clo lost : Int) (p1 : Option Addr) (n1 c1 : Nat) (p2 : Option Addr) (n2 c2 : Nat) (w : World) (b1 : ¬ n1 ≤ 1024) :
    Calls Ybaf.prog 7 #[.agg #[.int .u32 len, .int .i64 h1, .int .i64 h2, .int .i64 l1, .int .i64 l2, .int .i64 o0, .int .i64 o1, .int .i64 o2, .int .i64 o3, .bool oa, .int .i64 o5, .int .i64 o6, .int .i64 a0, .int .i64 a1, .int .i64 a2, .int .i64 a3, .int .u32 recs, .int .u32 seq, .int .u8 clo, .int .u8 lost, .slice p1 n1 c1, .slice p2 n2 c2]] w fun e w' => e = .returned (.bool true) ∧ Below w.heap.size w w' := by
  have g1 : (n1 : Int) > 1024 := by omega
  go_enter Ybaf.func7, Ybaf.ntmps7
  go_wp2
  go_ret
  exact ⟨rfl, (Below.refl _ w).alloc (Nat.le_refl _) _⟩

set_option maxHeartbeats 4000000 in
set_option maxRecDepth 100000 in
theorem law_big2 (len h1 h2 l1 l2 o0 o1 o2 o3 : Int) (oa : Bool) (o5 o6 a0 a1 a2 a3 recs seq clo lost : Int) (p1 : Option Addr) (n1 c1 : Nat) (p2 : Option Addr) (n2 c2 : Nat) (w : World) (b1 : n1 ≤ 1024) (b2 : ¬ n2 ≤ 1024) :
    Calls Ybaf.prog 7 #[.agg #[.int .u32 len, .int .i64 h1, .int .i64 h2, .int .i64 l1, .int .i64 l2, .int .i64 o0, .int .i64 o1, .int .i64 o2, .int .i64 o3, .bool oa, .int .i64 o5, .int .i64 o6, .int .i64 a0, .int .i64 a1, .int .i64 a2, .int .i64 a3, .int .u32 recs, .int .u32 seq, .int .u8 clo, .int .u8 lost, .slice p1 n1 c1, .slice p2 n2 c2]] w fun e w' => e = .returned (.bool true) ∧ Below w.heap.size w w' := by
  have g1 : ¬ (n1 : Int) > 1024 := by omega
  have g2 : (n2 : Int) > 1024 := by omega
  go_enter Ybaf.func7, Ybaf.ntmps7
  go_wp2
  go_ret
  exact ⟨rfl, (Below.refl _ w).alloc (Nat.le_refl _) _⟩

theorem law (F : Interp) (len h1 h2 l1 l2 o0 o1 o2 o3 : Int) (oa : Bool) (o5 o6 a0 a1 a2 a3 recs seq clo lost : Int) (p1 : Option Addr) (n1 c1 : Nat) (p2 : Option Addr) (n2 c2 : Nat) (z1 z2 : List Int) (w : World) (hF : F.answers w.tape) (hz : w.cell? ⟨2, 0, none⟩ = some (.pointer none)) (s1 : Src w p1 n1 c1 z1) (s2 : Src w p2 n2 c2 z2) :
    Calls Ybaf.prog 7 #[.agg #[.int .u32 len, .int .i64 h1, .int .i64 h2, .int .i64 l1, .int .i64 l2, .int .i64 o0, .int .i64 o1, .int .i64 o2, .int .i64 o3, .bool oa, .int .i64 o5, .int .i64 o6, .int .i64 a0, .int .i64 a1, .int .i64 a2, .int .i64 a3, .int .u32 recs, .int .u32 seq, .int .u8 clo, .int .u8 lost, .slice p1 n1 c1, .slice p2 n2 c2]] w fun e w' => e = .returned (.bool true) ∧ Below w.heap.size w w' := by
  by_cases b1 : n1 ≤ 1024
  · by_cases b2 : n2 ≤ 1024
    · exact law_small F _ _ _ _ _ _ _ _ _ _ _ _ _ _ _ _ _ _ _ _ _ _ _ _ _ _ z1 z2 w hF hz s1 s2 b1 b2
    · exact law_big2 _ _ _ _ _ _ _ _ _ _ _ _ _ _ _ _ _ _ _ _ _ _ _ _ _ _ w b1 b2
  · exact law_big1 _ _ _ _ _ _ _ _ _ _ _ _ _ _ _ _ _ _ _ _ _ _ _ _ _ _ w b1
end Go.Proofs.YbulkdfkFmt
