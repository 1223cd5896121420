import Derived.Test.YbulkdewFunc
import Derived.Test.YbulkdewModel
import Derived.Test.YbulkdewRoundFn
import Derived.Test.YbulkdewLawSym
namespace Go.Proofs.Ybulkdew
open Go.RowKit
set_option linter.unusedVariables false

/-- The closure: in every world in which its six variables and the two copies lie as they did. -/
theorem closure_any (q1 q2 q3 q4 q5 q6 : Nat) (aA aB : Option Addr) (len0 cA len1 cB : Nat) (z0 z1 : List Int) (aLo bLo n m : Nat) (W : World) (x y : Int)
    (c1 : W.cell? ⟨q1, 0, none⟩ = some (.int .i64 aLo)) (c2 : W.cell? ⟨q2, 0, none⟩ = some (.int .i64 bLo)) (c3 : W.cell? ⟨q3, 0, none⟩ = some (.int .i64 n)) (c4 : W.cell? ⟨q4, 0, none⟩ = some (.int .i64 m))
    (c5 : W.cell? ⟨q5, 0, none⟩ = some (.slice aA len0 cA)) (c6 : W.cell? ⟨q6, 0, none⟩ = some (.slice aB len1 cB)) (vA : View .i64 W aA len0 z0) (vB : View .i64 W aB len1 z1)
    (ha : aLo + n ≤ len0) (hb : bLo + m ≤ len1) (hl0 : len0 ≤ 300) (hl1 : len1 ≤ 300) (hx : 1 ≤ x) (hy : 1 ≤ y) (hx2 : x ≤ 3000) (hy2 : y ≤ 6000) :
    Calls Yba.prog 12 #[.int .i64 ((aLo : Int) + x - 1), .int .i64 ((bLo : Int) + y - 1), .pointer (some ⟨q1, 0, none⟩), .pointer (some ⟨q2, 0, none⟩), .pointer (some ⟨q3, 0, none⟩), .pointer (some ⟨q4, 0, none⟩), .pointer (some ⟨q5, 0, none⟩), .pointer (some ⟨q6, 0, none⟩)] W
      fun e w' => e = .returned (.bool ((partsOf z0 z1 aLo bLo n m).may x y)) ∧ ∃ q, w' = W.drewN q := by
  obtain ⟨i, hi⟩ : ∃ k : Nat, (aLo : Int) + x - 1 = k := ⟨aLo + (x.toNat - 1), by omega⟩
  obtain ⟨j, hj⟩ : ∃ k : Nat, (bLo : Int) + y - 1 = k := ⟨bLo + (y.toNat - 1), by omega⟩
  have hn : (partsOf z0 z1 aLo bLo n m).n = n := partsOf_n (by rw [vA.size]; exact ha)
  have hm : (partsOf z0 z1 aLo bLo n m).m = m := partsOf_m (by rw [vB.size]; exact hb)
  rw [hi, hj]
  have bi : (i : Int) ≤ 4000 := by omega
  have bj : (j : Int) ≤ 7000 := by omega
  have ba : (aLo : Int) ≤ 300 := by omega
  have bb : (bLo : Int) ≤ 300 := by omega
  have t1 : ¬ (i : Int) < (aLo : Int) := by omega
  have t2 : ¬ (j : Int) < (bLo : Int) := by omega
  by_cases h1 : x ≤ n
  · by_cases h2 : y ≤ m
    · have HM : Hid ((partsOf z0 z1 aLo bLo n m).may x y = (z0.getD i 0 == z1.getD j 0)) := by
        show _ = _
        rw [may_cond z0 z1 aLo bLo n m (by rw [vA.size]; exact ha) (by rw [vB.size]; exact hb) x y hx h1 hy h2, show aLo + (x.toNat - 1) = i by omega, show bLo + (y.toNat - 1) = j by omega]
      obtain ⟨b0, o0, rfl, _, hc0⟩ := vA.cells (by omega)
      obtain ⟨b1, o1, rfl, _, hc1⟩ := vB.cells (by omega)
      have g0 := hc0 i (by omega)
      have g1 := hc1 j (by omega)
      generalize z0.getD i 0 = e0 at g0 HM
      generalize z1.getD j 0 = e1 at g1 HM
      have t3 : ¬ (n : Int) ≤ (i : Int) - aLo := by omega
      have t4 : ¬ (m : Int) ≤ (j : Int) - bLo := by omega
      have y1 : (i : Int) < (len0 : Int) := by omega
      have y2 : (j : Int) < (len1 : Int) := by omega
      clear hc0 hc1 vA vB hi hj hn hm
      go_enter Yba.func12, Yba.ntmps12
      go_wp2_with fail
      go_quiet (fail)
      go_wp2
      go_ret
      exact ⟨by rw [HM.out]; rfl, _, rfl⟩
    · have HM : Hid ((partsOf z0 z1 aLo bLo n m).may x y = false) := may_false' (by rw [hm]; omega)
      have t4 : (m : Int) ≤ (j : Int) - bLo := by omega
      by_cases h3 : x ≤ n
      · have t3 : ¬ (n : Int) ≤ (i : Int) - aLo := by omega
        clear hi hj hn hm
        go_enter Yba.func12, Yba.ntmps12
        go_wp2
        go_ret
        exact ⟨by rw [HM.out]; rfl, 0, rfl⟩
      · omega
  · have HM : Hid ((partsOf z0 z1 aLo bLo n m).may x y = false) := may_false (by rw [hn]; omega)
    have t3 : (n : Int) ≤ (i : Int) - aLo := by omega
    clear hi hj hn hm
    go_enter Yba.func12, Yba.ntmps12
    go_wp2
    go_ret
    exact ⟨by rw [HM.out]; rfl, 0, rfl⟩

theorem own_view_any {w : World} {B len c : Nat} {a : Option Addr} {zs : List Int} (h : w.ownsRow B 3 1 (.slice a len c) len (zs.map (Value.int .i64))) : View .i64 w a len zs ∧ ∀ x, a = some x → B ≤ x.block := by
  have h' := h
  rcases h.2 with ⟨hh, h0⟩ | ⟨g, cap, cur, hh, hb, hg, _⟩
  · cases hh
    exact ⟨⟨by have := h.1; simpa using this, fun hl => absurd hl (Nat.lt_irrefl _)⟩, fun x hx => by cases hx⟩
  · cases hh
    exact ⟨own_view h', fun x hx => by cases hx; exact hb⟩

set_option maxHeartbeats 1000000 in
set_option maxRecDepth 100000 in
theorem law_func (a0 a1 : Option Addr) (len0 cap0 len1 cap1 : Nat) (z0 z1 : List Int) (x2 x3 x4 x5 x6 : Int) (a7 : Option Addr) (len7 cap7 : Nat) (z7 : List Int) (w : World)
    (v0 : View .i64 w a0 len0 z0) (v1 : View .i64 w a1 len1 z1) (n0 : a0 = none → len0 = 0) (n1 : a1 = none → len1 = 0)
    (h2 : 0 ≤ x2 ∧ x2 ≤ 65535) (h3 : 0 ≤ x3 ∧ x3 ≤ 65535) (h4 : 0 ≤ x4 ∧ x4 ≤ 65535) (h5 : 0 ≤ x5 ∧ x5 ≤ 65535) (h6 : 0 ≤ x6 ∧ x6 ≤ 65535)
    (v7 : View .u16 w a7 len7 z7) (w7 : ∀ j, 0 ≤ z7.getD j 0 ∧ z7.getD j 0 ≤ 65535) (hl0 : len0 ≤ 300) (hl1 : len1 ≤ 300) (hl7 : len7 ≤ 4096) :
    Calls Yba.prog 4 #[.slice a0 len0 cap0, .slice a1 len1 cap1, .int .u16 x2, .int .u16 x3, .int .u16 x4, .int .u16 x5, .int .u16 x6, .slice a7 len7 cap7] w
      fun e w' => e = .returned (.bool true) ∧ Below w.heap.size w w' := by
  have q0 : ¬ (300 : Int) < (len0 : Int) := by omega
  have q1 : ¬ (300 : Int) < (len1 : Int) := by omega
  have q7 : ¬ (4096 : Int) < (len7 : Int) := by omega
  have HSU : Hid _ := setup a0 a1 len0 cap0 len1 cap1 x2 x3 x4 x5 x6 a7 len7 cap7 z7 w h2 h3 h4 h5 h6 v7 w7 hl0 hl1 hl7
  clear h2 h3 h4 h5 h6 v7 w7
  have N0 : Hid _ := n0
  have N1 : Hid _ := n1
  clear n0 n1
  go_enter Yba.func4, Yba.ntmps4
  go_wp2_with fail
  refine Calls.mono HSU.out ?_
  rintro e w1 ⟨aLo, bLo, n, m, d, L, R, rfl, hS, hW1⟩
  have hB1 : Below w.heap.size w w1 := grown_below hW1.gr (Nat.le_refl _)
  have hs1 : w.heap.size < w1.heap.size := by
    obtain ⟨g, cap, e, _, hlt, _⟩ := own_shape hW1.own (by have := hS.l; omega)
    cases e; exact hlt
  clear HSU
  go_wp2_with fail
  generalize ho1 : (Obj.cells #[Value.int .i64 (aLo : Int)] 3) = o1
  generalize ho2 : (Obj.cells #[Value.int .i64 (bLo : Int)] 3) = o2
  generalize ho3 : (Obj.cells #[Value.int .i64 (n : Int)] 3) = o3
  generalize ho4 : (Obj.cells #[Value.int .i64 (m : Int)] 3) = o4
  have e1 : (w1.alloc o1).heap.size = w1.heap.size + 1 := by simp
  have e2 : ((w1.alloc o1).alloc o2).heap.size = w1.heap.size + 1 + 1 := by simp
  have e3 : (((w1.alloc o1).alloc o2).alloc o3).heap.size = w1.heap.size + 1 + 1 + 1 := by simp
  have e4 : ((((w1.alloc o1).alloc o2).alloc o3).alloc o4).heap.size = w1.heap.size + 1 + 1 + 1 + 1 := by simp
  obtain ⟨wq, hwq⟩ : ∃ wq, wq = (((w1.alloc o1).alloc o2).alloc o3).alloc o4 := ⟨_, rfl⟩
  have hBq : Below w1.heap.size w1 wq := by
    rw [hwq]
    exact ((((Below.refl _ w1).alloc (Nat.le_refl _) _).alloc (by omega) _).alloc (by omega) _).alloc (by omega) _
  have hsq : wq.heap.size = w1.heap.size + 1 + 1 + 1 + 1 := by rw [hwq]; exact e4
  have k1 : wq.heap[w1.heap.size]? = some (.cells #[.int .i64 (aLo : Int)] 3 (0, 0)) := by
    rw [hwq, Below.heap_alloc _ _ _ (by omega), Below.heap_alloc _ _ _ (by omega), Below.heap_alloc _ _ _ (by omega), ho1]; exact heap_alloc_new _ _
  have k2 : wq.heap[w1.heap.size + 1]? = some (.cells #[.int .i64 (bLo : Int)] 3 (0, 0)) := by
    rw [hwq, Below.heap_alloc _ _ _ (by omega), Below.heap_alloc _ _ _ (by omega), ho2, ← e1]; exact heap_alloc_new _ _
  have k3 : wq.heap[w1.heap.size + 1 + 1]? = some (.cells #[.int .i64 (n : Int)] 3 (0, 0)) := by
    rw [hwq, Below.heap_alloc _ _ _ (by omega), ho3, ← e2]; exact heap_alloc_new _ _
  have k4 : wq.heap[w1.heap.size + 1 + 1 + 1]? = some (.cells #[.int .i64 (m : Int)] 3 (0, 0)) := by
    rw [hwq, ho4, ← e3]; exact heap_alloc_new _ _
  rw [← hwq]
  clear hwq e1 e2 e3 e4 ho1 ho2 ho3 ho4
  have bq : Below w.heap.size w wq := hB1.trans (hBq.mono (by omega))
  have HMO : Hid _ := model a0 a1 len0 cap0 len1 cap1 z0 z1 wq aLo bLo n m d L R (some ⟨w.heap.size, 0, none⟩) L (v0.below bq) (v1.below bq) hS hl0 hl1 (own_view (own_below hW1.own hBq)) (by simp)
  refine Calls.mono HMO.out ?_
  rintro e w2 ⟨g', cap', rfl, hg', hB2, hown2⟩
  have hs2 := hB2.size
  have b2 : Below w.heap.size w w2 := bq.trans (hB2.mono (by omega))
  have t0 := v0.below b2
  clear HMO
  go_wp2_with fail
  refine (clone_any a0 len0 cap0 z0 w2 t0 (by omega) N0.out).mono ?_
  rintro e w3 ⟨va, rfl, hownA, _, hB3⟩
  obtain ⟨aA, cA, hva⟩ := own_slice hownA
  rw [hva] at hownA
  rw [hva]
  clear hva
  have hs3 := hB3.size
  have b3 : Below w.heap.size w w3 := b2.trans (hB3.mono (by omega))
  have b3' : ∀ o, Below w.heap.size w (w3.alloc o) := fun o => b3.alloc (by omega) o
  have t1' := fun o => v1.below (b3' o)
  have T1 : Hid _ := t1'
  clear t1' b3'
  go_wp2_with fail
  refine (clone_any a1 len1 cap1 z1 _ (T1.out _) (by omega) N1.out).mono ?_
  rintro e w4 ⟨vb, rfl, hownB, _, hB4⟩
  obtain ⟨aB, cB, hvb⟩ := own_slice hownB
  rw [hvb] at hownB
  rw [hvb]
  clear hvb
  have hs4 := hB4.size
  have hsz3 : (w3.alloc (.cells #[.slice aA len0 cA] 22)).heap.size = w3.heap.size + 1 := by simp
  have old : ∀ k ob, k < wq.heap.size → wq.heap[k]? = some ob → w4.heap[k]? = some ob := fun k ob hk hh => by
    rw [hB4.block k (by omega), Below.heap_alloc _ _ _ (by omega), hB3.block k (by omega), hB2.block k (by omega)]; exact hh
  have m1 := old _ _ (by omega) k1
  have m2 := old _ _ (by omega) k2
  have m3 := old _ _ (by omega) k3
  have m4 := old _ _ (by omega) k4
  have m5 : w4.heap[w3.heap.size]? = some (.cells #[.slice aA len0 cA] 22 (0, 0)) := by rw [hB4.block _ (by omega)]; exact heap_alloc_new w3 _
  have lift : ∀ k ob o o', w4.heap[k]? = some ob → ((w4.alloc o).alloc o').heap[k]? = some ob := fun k ob o o' hh => by
    have hk := (Array.getElem?_eq_some_iff.1 hh).1
    rw [Below.heap_alloc _ _ _ (by simp; omega), Below.heap_alloc _ _ _ hk]; exact hh
  have x1 : ∀ o o', ((w4.alloc o).alloc o').cell? ⟨w1.heap.size, 0, none⟩ = some (.int .i64 aLo) := fun o o' => cell_of_block (lift _ _ o o' m1) 0
  have x2 : ∀ o o', ((w4.alloc o).alloc o').cell? ⟨w1.heap.size + 1, 0, none⟩ = some (.int .i64 bLo) := fun o o' => cell_of_block (lift _ _ o o' m2) 0
  have x3 : ∀ o o', ((w4.alloc o).alloc o').cell? ⟨w1.heap.size + 1 + 1, 0, none⟩ = some (.int .i64 n) := fun o o' => cell_of_block (lift _ _ o o' m3) 0
  have x4 : ∀ o o', ((w4.alloc o).alloc o').cell? ⟨w1.heap.size + 1 + 1 + 1, 0, none⟩ = some (.int .i64 m) := fun o o' => cell_of_block (lift _ _ o o' m4) 0
  have HLI : Hid _ := lift
  have HM5 : Hid _ := m5
  have HM : Hid (w4.heap[w1.heap.size]? = some (.cells #[.int .i64 (aLo : Int)] 3 (0, 0)) ∧ w4.heap[w1.heap.size + 1]? = some (.cells #[.int .i64 (bLo : Int)] 3 (0, 0)) ∧ w4.heap[w1.heap.size + 1 + 1]? = some (.cells #[.int .i64 (n : Int)] 3 (0, 0)) ∧ w4.heap[w1.heap.size + 1 + 1 + 1]? = some (.cells #[.int .i64 (m : Int)] 3 (0, 0))) := ⟨m1, m2, m3, m4⟩
  clear lift m1 m2 m3 m4 m5 old k1 k2 k3 k4
  go_wp2_with fail
  generalize hoB : (Obj.cells #[Value.slice aB len1 cB] 22) = oB
  generalize hob : (Obj.cells _ 36) = ob
  have HOB : Hid _ := hob
  have HoB : Hid _ := hoB
  clear hob hoB x1 x2 x3 x4
  have esz : (w4.alloc oB).heap.size = w4.heap.size + 1 := by simp
  have b45 : Below w4.heap.size w4 ((w4.alloc oB).alloc ob) := ((Below.refl _ w4).alloc (Nat.le_refl _) _).alloc (by omega) _
  have hbx0 : ((w4.alloc oB).alloc ob).heap[w4.heap.size + 1]? = some ob := by rw [← esz]; exact heap_alloc_new _ _
  have hbx' : ((w4.alloc oB).alloc ob).heap[w4.heap.size + 1]? = some (.cells #[.slice none 0 0, .slice none 0 0, clo w1.heap.size (w1.heap.size + 1) (w1.heap.size + 1 + 1) (w1.heap.size + 1 + 1 + 1) w3.heap.size w4.heap.size, .slice none 0 0, .slice none 0 0, .slice none 0 0, .slice (some ⟨w.heap.size, 0, none⟩) L L, .slice none 0 0, .slice none 0 0, .int .i64 0, .bool false, .nilIface, .slice none 0 0, .slice none 0 0, .slice none 0 0, .slice none 0 0, .int .i64 0, .bool false, .slice none 0 0, .slice none 0 0] 36 (0, 0)) := by unfold clo; rw [HOB.out]; exact hbx0
  have m6 : ((w4.alloc oB).alloc ob).heap[w4.heap.size]? = some (.cells #[.slice aB len1 cB] 22 (0, 0)) := by rw [HoB.out, Below.heap_alloc _ _ _ (by omega)]; exact heap_alloc_new _ _
  have b35 : Below w3.heap.size w3 ((w4.alloc oB).alloc ob) := (((Below.refl _ w3).alloc (Nat.le_refl _) _).trans (hB4.mono (by omega))).trans (b45.mono (by omega))
  have b25 : Below w2.heap.size w2 ((w4.alloc oB).alloc ob) := hB3.trans (b35.mono (by omega))
  have ownR : ((w4.alloc oB).alloc ob).ownsRow w.heap.size 3 1 (.slice (some ⟨w.heap.size, 0, none⟩) L L) L (R.map (Value.int .i64)) := own_below (own_below (own_below hW1.own hBq) hB2) b25
  have ownE := own_below hown2 b25
  obtain ⟨viA, awA⟩ := own_view_any (own_below hownA b35)
  obtain ⟨viB, awB⟩ := own_view_any (own_below hownB b45)
  have hn3 : n ≤ 300 := by have := hS.a; omega
  have hm3 : m ≤ 300 := by have := hS.b; omega
  have hEq : EqFn (partsOf z0 z1 aLo bLo n m) w1.heap.size (w1.heap.size + 1) (w1.heap.size + 1 + 1) (w1.heap.size + 1 + 1 + 1) w3.heap.size w4.heap.size w.heap.size ((w4.alloc oB).alloc ob) aLo bLo := fun W hgr x y hx hy hx2 hy2 =>
    closure_any _ _ _ _ _ _ aA aB len0 cA len1 cB z0 z1 aLo bLo n m W x y
      (hgr.cell (a := ⟨w1.heap.size, 0, none⟩) (cell_of_block (HLI.out _ _ _ _ HM.out.1) 0) (by simp; omega))
      (hgr.cell (a := ⟨w1.heap.size + 1, 0, none⟩) (cell_of_block (HLI.out _ _ _ _ HM.out.2.1) 0) (by simp; omega))
      (hgr.cell (a := ⟨w1.heap.size + 1 + 1, 0, none⟩) (cell_of_block (HLI.out _ _ _ _ HM.out.2.2.1) 0) (by simp; omega))
      (hgr.cell (a := ⟨w1.heap.size + 1 + 1 + 1, 0, none⟩) (cell_of_block (HLI.out _ _ _ _ HM.out.2.2.2) 0) (by simp; omega))
      (hgr.cell (a := ⟨w3.heap.size, 0, none⟩) (cell_of_block (HLI.out _ _ _ _ HM5.out) 0) (by simp; omega))
      (hgr.cell (a := ⟨w4.heap.size, 0, none⟩) (cell_of_block m6 0) (by simp; omega))
      (viA.grown hgr (fun x hx => by have := awA x hx; omega)) (viB.grown hgr (fun x hx => by have := awB x hx; omega)) hS.a hS.b hl0 hl1 hx hy hx2 hy2
  have c6 : ((w4.alloc oB).alloc ob).cell? ⟨w4.heap.size + 1, 6, none⟩ = some (.slice (some ⟨w.heap.size, 0, none⟩) L L) := cell_of_block hbx' 6
  have HRF : Hid _ := round_func (w4.heap.size + 1) (partsOf z0 z1 aLo bLo n m) w1.heap.size (w1.heap.size + 1) (w1.heap.size + 1 + 1) (w1.heap.size + 1 + 1 + 1) w3.heap.size w4.heap.size _ w.heap.size w.heap.size L L R aLo bLo n m d
    (cell_of_block hbx' 2) c6 (by omega) hEq (partsOf_n (by rw [v0.size]; exact hS.a)) (partsOf_m (by rw [v1.size]; exact hS.b)) (by omega) (by omega)
    (by have := hS.d; omega) (by have := hS.a; omega) (by have := hS.b; omega) ⟨ownR, grownBy_refl _ _⟩ (hS.r.wide (Int.le_refl _) (by omega)) (by have := hS.l; omega)
  refine Calls.mono HRF.out ?_
  rintro e w6 ⟨rfl, hW6⟩
  have k6 := hW6.gr.cell c6 (by simp; omega)
  have e6 : View .i64 w6 (some ⟨g', 0, none⟩) L ((partsOf z0 z1 aLo bLo n m).fin d R) := (own_view ownE).grown hW6.gr (fun x hx => by cases hx; show g' ≠ w.heap.size; omega)
  have r6 := own_view hW6.own
  have b6 : Below w.heap.size w w6 := (b2.trans (b25.mono (by omega))).trans (grown_below' hW6.gr (Nat.le_refl _) (by simp; omega))
  have hLL : L ≤ 1000 := by have := hS.l; omega
  have HEQ : Hid _ := equal_same (some ⟨w.heap.size, 0, none⟩) (some ⟨g', 0, none⟩) L L cap' _ w6 hLL r6 e6
  clear HRF hW6 e6 r6 ownR ownE viA viB awA awB hbx0 hbx' m6 c6 hown2 hownA hownB hEq
  go_wp2_with fail
  refine Calls.mono HEQ.out ?_
  rintro e w7 ⟨rfl, q, hw7⟩
  have b7 : Below w.heap.size w w7 := by rw [hw7]; exact ⟨b6.os, b6.tape, b6.output, b6.size, b6.block⟩
  clear hw7
  go_wp2_with fail
  go_ret
  exact ⟨rfl, b7⟩
end Go.Proofs.Ybulkdew
