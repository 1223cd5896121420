import Derived.Test.YbulkdewMax
import Derived.Test.YbulkdewPlain
namespace Go.Proofs.Ybulkdew
open Go.RowKit
set_option linter.unusedVariables false

theorem and_ones (d : Int) (h0 : -9223372036854775808 ≤ d) (h1 : d < 9223372036854775808) : bits .and .i64 d (-1) = d := by
  show IntKind.i64.wrap (((BitVec.ofInt 64 d) &&& (BitVec.ofInt 64 (-1))).toNat : Int) = d
  rw [show BitVec.ofInt 64 (-1) = BitVec.allOnes 64 from by decide, BitVec.and_allOnes, BitVec.toNat_ofInt, IntKind.wrap_i64]
  omega
theorem and_none (d : Int) : bits .and .i64 d 0 = 0 := by
  show IntKind.i64.wrap (((BitVec.ofInt 64 d) &&& (BitVec.ofInt 64 0)).toNat : Int) = 0
  rw [show BitVec.ofInt 64 0 = 0#64 from by decide, BitVec.and_zero]
  rfl
theorem and_one (d : Int) (h0 : 0 ≤ d) (h1 : d < 9223372036854775808) : bits .and .i64 d 1 = d % 2 := by
  show IntKind.i64.wrap (((BitVec.ofInt 64 d) &&& (BitVec.ofInt 64 1)).toNat : Int) = d % 2
  rw [BitVec.toNat_and, BitVec.toNat_ofInt, show (BitVec.ofInt 64 1).toNat = 1 from by decide, Nat.and_one_is_mod, IntKind.wrap_i64]
  omega

theorem min_bits (x y : Int) (hx : -100000 ≤ x ∧ x ≤ 100000) (hy : -100000 ≤ y ∧ y ≤ 100000) : wrap64 (x + bits BinOp.and IntKind.i64 (y - x) ((y - x) / 9223372036854775808)) = lesser x y := by
  unfold lesser
  by_cases h : y < x
  · rw [if_pos h, show (y - x) / 9223372036854775808 = -1 by omega, and_ones _ (by omega) (by omega)]
    unfold wrap64; omega
  · rw [if_neg h, show (y - x) / 9223372036854775808 = 0 by omega, and_none]
    unfold wrap64; omega

set_option maxHeartbeats 400000 in
theorem minOf_any (x y : Int) (w : World) (hx : -100000 ≤ x ∧ x ≤ 100000) (hy : -100000 ≤ y ∧ y ≤ 100000) :
    Calls Yba.prog 18 #[.int .i64 x, .int .i64 y] w fun e w' => e = .returned (.int .i64 (lesser x y)) ∧ w' = w := by
  go_enter Yba.func18, Yba.ntmps18
  go_wp2
  go_ret
  exact ⟨ret_int (min_bits x y hx hy), rfl⟩

theorem u64_lt (x : Int) (n : Nat) (hx : -100000 ≤ x ∧ x ≤ 100000) (hn : n ≤ 1000) : decide (IntKind.u64.wrap x < (n : Int)) = decide (0 ≤ x ∧ x < n) := by
  rw [IntKind.wrap_u64, decide_eq_decide]
  omega

theorem may_false {c : Parts} {x y : Int} (h : ¬ (1 ≤ x ∧ x ≤ c.n)) : c.may x y = false := by
  unfold Parts.may
  rw [Bool.eq_false_iff]
  intro hh
  simp only [Bool.and_eq_true, decide_eq_true_eq] at hh
  exact h ⟨hh.1.1.1.1, hh.1.1.2⟩
theorem may_false' {c : Parts} {x y : Int} (h : ¬ (1 ≤ y ∧ y ≤ c.m)) : c.may x y = false := by
  unfold Parts.may
  rw [Bool.eq_false_iff]
  intro hh
  simp only [Bool.and_eq_true, decide_eq_true_eq] at hh
  exact h ⟨hh.1.1.1.2, hh.1.2⟩
theorem may_eq {c : Parts} {x y : Int} (h : 1 ≤ x ∧ x ≤ c.n) (h' : 1 ≤ y ∧ y ≤ c.m) : c.may x y = (c.a.getD (x - 1).toNat 0 == c.b.getD (y - 1).toNat 0) := by
  unfold Parts.may
  simp [h.1, h.2, h'.1, h'.2]

theorem ret_two {a b c d : Int} (h : a = c) (h' : b = d) : Ending.returned (.tuple #[.int .i64 a, .int .i64 b]) = .returned (.tuple #[.int .i64 c, .int .i64 d]) := by rw [h, h']

set_option maxHeartbeats 1000000 in
set_option maxRecDepth 100000 in
theorem snakeB (aa ab : Option Addr) (na nb ca cb : Nat) (c : Parts) (x y : Int) (w : World) (va : View .i64 w aa na c.a) (vb : View .i64 w ab nb c.b)
    (hna : na ≤ 1000) (hnb : nb ≤ 1000) (hx : -3000 ≤ x ∧ x ≤ 3000) (hy : -6000 ≤ y ∧ y ≤ 6000) :
    Calls Yba.prog 20 #[.slice aa na ca, .slice ab nb cb, .int .i64 x, .int .i64 y] w fun e w' => e = .returned (.tuple #[.int .i64 (c.snk x y), .int .i64 (c.snk x y + (y - x))]) ∧ ∃ q, w' = w.drewN q := by
  have Hn : Hid (c.n = na) := by show (c.a.length : Int) = na; rw [va.size]
  have Hm : Hid (c.m = nb) := by show (c.b.length : Int) = nb; rw [vb.size]
  go_enter Yba.func20, Yba.ntmps20
  go_wp2
  go_loopg [2] x.toNat (fun g s2 wr => ∃ (X : Int) (q : Nat), X.toNat ≤ g ∧ s2 = .int .i64 X ∧ X ≤ x ∧ (x ≤ X ∨ 0 ≤ X) ∧ wr = w.drewN q ∧ Hid (c.snk X (X + (y - x)) = c.snk x y))
  case atStart => exact ⟨x, 0, Nat.le_refl _, rfl, Int.le_refl _, .inl (Int.le_refl _), rfl, show _ = _ by rw [show x + (y - x) = y by omega]⟩
  case round =>
    obtain ⟨X, q, hg, rfl, hX1, hX2, rfl, HE⟩ := hrel
    have hXl : -3000 ≤ X := by omega
    by_cases h1 : 1 ≤ X ∧ X ≤ na
    · have e1 : IntKind.i64.wrap (X - 1) = X - 1 := by rw [IntKind.wrap_i64]; omega
      have e2 : IntKind.u64.wrap (X - 1) = X - 1 := by rw [IntKind.wrap_u64]; omega
      have e3 : IntKind.u64.wrap (na : Int) = na := by rw [IntKind.wrap_u64]; omega
      have e4 : IntKind.u64.wrap (nb : Int) = nb := by rw [IntKind.wrap_u64]; omega
      have e5 : IntKind.i64.wrap (X - 1 + (y - x)) = X - 1 + (y - x) := by rw [IntKind.wrap_i64]; omega
      have i2 : X - 1 < (na : Int) := by omega
      by_cases h2 : 1 ≤ X + (y - x) ∧ X + (y - x) ≤ nb
      · have e6 : IntKind.u64.wrap (X - 1 + (y - x)) = X - 1 + (y - x) := by rw [IntKind.wrap_u64]; omega
        have HM : Hid (c.may X (X + (y - x)) = (c.a.getD (X - 1).toNat 0 == c.b.getD (X + (y - x) - 1).toNat 0)) := may_eq (by rw [Hn.out]; exact h1) (by rw [Hm.out]; exact h2)
        obtain ⟨b1, o1, rfl, _, hc1⟩ := va.cells (by omega)
        obtain ⟨b2, o2, rfl, _, hc2⟩ := vb.cells (by omega)
        have g1 := hc1 (X - 1).toNat (by omega)
        have g2 := hc2 (X - 1 + (y - x)).toNat (by omega)
        rw [show X + (y - x) - 1 = X - 1 + (y - x) by omega] at HM
        generalize c.a.getD (X - 1).toNat 0 = v1 at g1 HM
        generalize c.b.getD (X - 1 + (y - x)).toNat 0 = v2 at g2 HM
        rw [show (X - 1).toNat = X.toNat - 1 by omega] at g1
        have i1 : 0 ≤ X - 1 := by omega
        have i3 : 0 ≤ X - 1 + (y - x) := by omega
        have i4 : X - 1 + (y - x) < (nb : Int) := by omega
        clear hc1 hc2 va vb
        by_cases hv : v1 = v2
        · have hv' : (v1 == v2) = true := by simpa using hv
          rw [hv'] at HM
          clear hv
          go_wp2_with fail
          go_quiet (fail)
          go_wp2
          go_roundg (X - 1).toNat
          case measure => omega
          case rel =>
            refine ⟨X - 1, _, Nat.le_refl _, rfl, by omega, by omega, rfl, ?_⟩
            show c.snk (X - 1) (X - 1 + (y - x)) = c.snk x y
            rw [← HE.out, c.snk_step X (X + (y - x)) HM.out, show X - 1 + (y - x) = X + (y - x) - 1 by omega]
        · have hv' : (v1 == v2) = false := by simpa using hv
          rw [hv'] at HM
          clear hv
          go_wp2_with fail
          go_quiet (fail)
          go_wp2
          go_ret2
          have hs : X = c.snk x y := by rw [← HE.out]; exact (c.snk_stop _ _ HM.out).symm
          exact ⟨ret_two hs (by omega), _, rfl⟩
      · have d2 : decide (IntKind.u64.wrap (X - 1 + (y - x)) < (nb : Int)) = false := by rw [u64_lt _ _ (by omega) hnb]; simp; omega
        have HM : Hid (c.may X (X + (y - x)) = false) := may_false' (by rw [Hm.out]; exact h2)
        go_wp2_with fail
        go_quiet (fail)
        go_wp2
        go_ret2
        have hs : X = c.snk x y := by rw [← HE.out]; exact (c.snk_stop _ _ HM.out).symm
        exact ⟨ret_two hs (by omega), _, rfl⟩
    · have d1 : decide (IntKind.u64.wrap (X - 1) < (na : Int)) = false := by rw [u64_lt _ _ (by omega) hna]; simp; omega
      have HM : Hid (c.may X (X + (y - x)) = false) := may_false (by rw [Hn.out]; exact h1)
      go_wp2_with fail
      go_quiet (fail)
      go_wp2
      go_ret2
      have hs : X = c.snk x y := by rw [← HE.out]; exact (c.snk_stop _ _ HM.out).symm
      exact ⟨ret_two hs (by omega), _, rfl⟩
end Go.Proofs.Ybulkdew
