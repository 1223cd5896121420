import Derived.Test.YbulkdewRoundSym
import Derived.Test.YbulkdewModel
namespace Go.Proofs.Ybulkdew
open Go.RowKit
set_option linter.unusedVariables false

theorem slice_some (g len cap lo n : Nat) (h : lo + n ≤ cap) (W : World) :
    (Instr.slice 22 (.slice (some ⟨g, 0, none⟩) len cap) (some (.int .i64 (lo : Int))) (some (.int .i64 ((lo : Int) + n))) none).run Yba.prog W = .ok (.slice (if cap = lo then some ⟨g, 0, none⟩ else some ⟨g, lo, none⟩) n (cap - lo)) W := by
  have h1 : (0 : Int) ≤ (lo : Int) := by omega
  have h2 : (lo : Int) ≤ (lo : Int) + n := by omega
  have h3 : (lo : Int) + n ≤ (cap : Int) := by omega
  simp [go_sem, h1, h2, h3]
  omega
theorem slice_none (W : World) :
    (Instr.slice 22 (.slice none 0 0) (some (.int .i64 ((0 : Nat) : Int))) (some (.int .i64 (((0 : Nat) : Int) + ((0 : Nat) : Int)))) none).run Yba.prog W = .ok (.slice none 0 0) W := by kernel_rfl

/-- A cut v[lo:lo+n] of an owned row. -/
theorem slice_own {w : World} {B len : Nat} {v : Value} {zs : List Int} (h : w.ownsRow B 3 1 v len (zs.map (Value.int .i64))) (lo n : Nat) (hl : lo + n ≤ len) :
    ∃ aa ca, (∀ W, (Instr.slice 22 v (some (.int .i64 (lo : Int))) (some (.int .i64 ((lo : Int) + n))) none).run Yba.prog W = .ok (.slice aa n ca) W) ∧ View .i64 w aa n ((zs.drop lo).take n) ∧ ∀ x, aa = some x → B ≤ x.block := by
  have hz : zs.length = len := by have := h.1; simpa using this
  have hlen : ((zs.drop lo).take n).length = n := by simp; omega
  rcases h.2 with ⟨rfl, h0⟩ | ⟨g, cap, cur, rfl, hb, hg, hn, hm, _⟩
  · obtain rfl : lo = 0 := by omega
    obtain rfl : n = 0 := by omega
    exact ⟨none, 0, slice_none, ⟨hlen, fun h => absurd h (Nat.lt_irrefl _)⟩, fun x hx => by cases hx⟩
  · refine ⟨_, _, slice_some g len cap lo n (by omega), ⟨hlen, fun hp => ?_⟩, fun x hx => ?_⟩
    · rw [if_neg (by omega)]
      refine ⟨g, lo, rfl, (Array.getElem?_eq_some_iff.1 hg).1, fun j hj => ?_⟩
      rw [h.cellAt (lo + j) (by omega), List.getElem?_map, drop_take_getD _ _ _ _ hj, List.getD_eq_getElem?_getD, List.getElem?_eq_getElem (by omega)]
      rfl
    · split at hx <;> cases hx <;> exact hb

/-- What is owned stays owned where nothing below the heap's size has turned. -/
theorem own_below {w w' : World} {B e len : Nat} {v : Value} {xs : List Value} (h : w.ownsRow B e 1 v len xs) (hb : Below w.heap.size w w') : w'.ownsRow B e 1 v len xs := by
  refine ⟨h.1, ?_⟩
  rcases h.2 with hn | ⟨g, cap, cur, rfl, hg, hh, rest⟩
  · exact .inl hn
  · exact .inr ⟨g, cap, cur, rfl, hg, by rw [hb.block g (Array.getElem?_eq_some_iff.1 hh).1]; exact hh, rest⟩

theorem own_view {w : World} {B g len cap : Nat} {zs : List Int} (h : w.ownsRow B 3 1 (.slice (some ⟨g, 0, none⟩) len cap) len (zs.map (Value.int .i64))) : View .i64 w (some ⟨g, 0, none⟩) len zs := by
  have hz : zs.length = len := by have := h.1; simpa using this
  refine ⟨hz, fun hl => ⟨g, 0, rfl, ?_, fun j hj => ?_⟩⟩
  · rcases h.2 with ⟨hh, _⟩ | ⟨g', cap', cur, hh, _, hg, _⟩
    · cases hh
    · cases hh; exact (Array.getElem?_eq_some_iff.1 hg).1
  · rw [Nat.zero_add, h.cellAt j (by omega), List.getElem?_map, List.getD_eq_getElem?_getD, List.getElem?_eq_getElem (by omega)]
    rfl

theorem grown_below {w w' : World} {g : Nat} (h : w.grownBy w' (some g)) (hg : w.heap.size ≤ g) : Below w.heap.size w w' :=
  ⟨h.os, h.tape, h.output, h.size, fun k hk => h.block k hk (by simp; omega)⟩

theorem grown_below' {w w' : World} {g B : Nat} (h : w.grownBy w' (some g)) (hg : B ≤ g) (hB : B ≤ w.heap.size) : Below B w w' :=
  ⟨h.os, h.tape, h.output, h.size, fun k hk => h.block k (by omega) (by simp; omega)⟩

theorem cell_of_block {w : World} {k t : Nat} {cs : Array Value} {r : Nat × Nat} (hk : w.heap[k]? = some (.cells cs t r)) (i : Nat) : w.cell? ⟨k, i, none⟩ = cs[i]? := by
  simp [World.cell?, hk]

theorem own_slice {w : World} {B e len : Nat} {v : Value} {xs : List Value} (h : w.ownsRow B e 1 v len xs) : ∃ a c, v = .slice a len c := by
  rcases h.2 with ⟨rfl, rfl⟩ | ⟨g, cap, cur, rfl, _⟩
  · exact ⟨_, _, rfl⟩
  · exact ⟨_, _, rfl⟩

set_option maxHeartbeats 1000000 in
set_option maxRecDepth 100000 in
theorem law_symbols (a0 a1 : Option Addr) (len0 cap0 len1 cap1 : Nat) (z0 z1 : List Int) (x2 x3 x4 x5 x6 : Int) (a7 : Option Addr) (len7 cap7 : Nat) (z7 : List Int) (w : World)
    (v0 : View .i64 w a0 len0 z0) (v1 : View .i64 w a1 len1 z1) (n0 : a0 = none → len0 = 0) (n1 : a1 = none → len1 = 0)
    (h2 : 0 ≤ x2 ∧ x2 ≤ 65535) (h3 : 0 ≤ x3 ∧ x3 ≤ 65535) (h4 : 0 ≤ x4 ∧ x4 ≤ 65535) (h5 : 0 ≤ x5 ∧ x5 ≤ 65535) (h6 : 0 ≤ x6 ∧ x6 ≤ 65535)
    (v7 : View .u16 w a7 len7 z7) (w7 : ∀ j, 0 ≤ z7.getD j 0 ∧ z7.getD j 0 ≤ 65535) (hl0 : len0 ≤ 300) (hl1 : len1 ≤ 300) (hl7 : len7 ≤ 4096) :
    Calls Yba.prog 3 #[.slice a0 len0 cap0, .slice a1 len1 cap1, .int .u16 x2, .int .u16 x3, .int .u16 x4, .int .u16 x5, .int .u16 x6, .slice a7 len7 cap7] w
      fun e w' => e = .returned (.bool true) ∧ Below w.heap.size w w' := by
  have q0 : ¬ (300 : Int) < (len0 : Int) := by omega
  have q1 : ¬ (300 : Int) < (len1 : Int) := by omega
  have q7 : ¬ (4096 : Int) < (len7 : Int) := by omega
  have HSU : Hid _ := setup a0 a1 len0 cap0 len1 cap1 x2 x3 x4 x5 x6 a7 len7 cap7 z7 w h2 h3 h4 h5 h6 v7 w7 hl0 hl1 hl7
  clear h2 h3 h4 h5 h6 v7 w7
  have N0 : Hid _ := n0
  have N1 : Hid _ := n1
  clear n0 n1
  go_enter Yba.func3, Yba.ntmps3
  go_wp2_with fail
  refine Calls.mono HSU.out ?_
  rintro e w1 ⟨aLo, bLo, n, m, d, L, R, rfl, hS, hW1⟩
  have hB1 : Below w.heap.size w w1 := grown_below hW1.gr (Nat.le_refl _)
  have u0 := v0.below hB1
  have u1 := v1.below hB1
  have hs1 : w.heap.size < w1.heap.size := by
    obtain ⟨g, cap, e, _, hlt, _⟩ := own_shape hW1.own (by have := hS.l; omega)
    cases e; exact hlt
  have HMO : Hid _ := model a0 a1 len0 cap0 len1 cap1 z0 z1 w1 aLo bLo n m d L R (some ⟨w.heap.size, 0, none⟩) L u0 u1 hS hl0 hl1 (own_view hW1.own) (by simp)
  clear HSU
  go_wp2_with fail
  refine Calls.mono HMO.out ?_
  rintro e w2 ⟨g', cap', rfl, hg', hB2, hown2⟩
  have b2 : Below w.heap.size w w2 := hB1.trans (hB2.mono (by omega))
  have t0 := v0.below b2
  have t1 := v1.below b2
  clear HMO
  go_wp2_with fail
  refine (clone_any a0 len0 cap0 z0 w2 t0 (by omega) N0.out).mono ?_
  rintro e w3 ⟨va, rfl, hownA, _, hB3⟩
  obtain ⟨aA, cA, hva⟩ := own_slice hownA
  rw [hva] at hownA
  rw [hva]
  clear hva
  have b3 : Below w.heap.size w w3 := b2.trans (hB3.mono b2.size)
  have t1' := v1.below b3
  go_wp2_with fail
  refine (clone_any a1 len1 cap1 z1 w3 t1' (by omega) N1.out).mono ?_
  rintro e w4 ⟨vb, rfl, hownB, _, hB4⟩
  obtain ⟨aB, cB, hvb⟩ := own_slice hownB
  rw [hvb] at hownB
  rw [hvb]
  clear hvb
  have b4 : Below w.heap.size w w4 := b3.trans (hB4.mono b3.size)
  go_wp2_with fail
  generalize hob : (Obj.cells _ 36) = ob
  have HOB : Hid _ := hob
  clear hob
  have hb5 : Below w4.heap.size w4 (w4.alloc ob) := (Below.refl _ w4).alloc (Nat.le_refl _) _
  have hbx : (w4.alloc ob).heap[w4.heap.size]? = some ob := heap_alloc_new w4 _
  have hbx' : (w4.alloc ob).heap[w4.heap.size]? = some (.cells #[.slice aA len0 cA, .slice aB len1 cB, .nilFunc, .slice none 0 0, .slice none 0 0, .slice none 0 0, .slice (some ⟨w.heap.size, 0, none⟩) L L, .slice none 0 0, .slice none 0 0, .int .i64 0, .bool false, .nilIface, .slice none 0 0, .slice none 0 0, .slice none 0 0, .slice none 0 0, .int .i64 0, .bool false, .slice none 0 0, .slice none 0 0] 36 (0, 0)) := by rw [HOB.out]; exact hbx
  have hs2 := hB2.size
  have hs3 := hB3.size
  have hs4 := hB4.size
  have b25 : Below w2.heap.size w2 (w4.alloc ob) := (hB3.trans (hB4.mono hs3)).trans (hb5.mono (by omega))
  have ownR : (w4.alloc ob).ownsRow w.heap.size 3 1 (.slice (some ⟨w.heap.size, 0, none⟩) L L) L (R.map (Value.int .i64)) := own_below (own_below hW1.own hB2) b25
  have ownE := own_below hown2 b25
  have ownA := own_below (own_below hownA hB4) hb5
  have ownB := own_below hownB hb5
  obtain ⟨aa, ca, sa, va', ba⟩ := slice_own ownA aLo n hS.a
  obtain ⟨ab, cb, sb, vb', bb⟩ := slice_own ownB bLo m hS.b
  have hn3 : n ≤ 300 := by have := hS.a; omega
  have hm3 : m ≤ 300 := by have := hS.b; omega
  have c6 : (w4.alloc ob).cell? ⟨w4.heap.size, 6, none⟩ = some (.slice (some ⟨w.heap.size, 0, none⟩) L L) := cell_of_block hbx' 6
  have HRS : Hid _ := round_symbols w4.heap.size (.slice aA len0 cA) (.slice aB len1 cB) aa ab n m ca cb (partsOf z0 z1 aLo bLo n m) _ w.heap.size w.heap.size L L R aLo bLo n m d
    (cell_of_block hbx' 0) (cell_of_block hbx' 1) (cell_of_block hbx' 2) c6 (by omega) sa sb va' vb' (fun x hx => by have := ba x hx; omega) (fun x hx => by have := bb x hx; omega) hn3 hm3 rfl rfl
    (by have := hS.d; omega) (by have := hS.a; omega) (by have := hS.b; omega) ⟨ownR, grownBy_refl _ _⟩ (hS.r.wide (Int.le_refl _) (by omega)) (by have := hS.l; omega)
  refine Calls.mono HRS.out ?_
  rintro e w6 ⟨rfl, hW6⟩
  have k6 := hW6.gr.cell c6 (by simp; omega)
  have e6 : View .i64 w6 (some ⟨g', 0, none⟩) L ((partsOf z0 z1 aLo bLo n m).fin d R) := (own_view ownE).grown hW6.gr (fun x hx => by cases hx; show g' ≠ w.heap.size; omega)
  have r6 := own_view hW6.own
  have b6 : Below w.heap.size w w6 := (b2.trans (b25.mono (by omega))).trans (grown_below' hW6.gr (Nat.le_refl _) (by simp; omega))
  have hLL : L ≤ 1000 := by have := hS.l; omega
  have HEQ : Hid _ := equal_same (some ⟨w.heap.size, 0, none⟩) (some ⟨g', 0, none⟩) L L cap' _ w6 hLL r6 e6
  clear HRS hW6 e6 r6 ownR ownE ownA ownB sa sb va' vb' ba bb hbx hbx' c6 hown2 hownA hownB
  go_wp2_with fail
  refine Calls.mono HEQ.out ?_
  rintro e w7 ⟨rfl, q, hw7⟩
  have b7 : Below w.heap.size w w7 := by rw [hw7]; exact ⟨b6.os, b6.tape, b6.output, b6.size, b6.block⟩
  clear hw7
  go_wp2_with fail
  go_ret
  exact ⟨rfl, b7⟩
end Go.Proofs.Ybulkdew
