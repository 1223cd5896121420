import Derived.Test.YbulkdewSymbols
namespace Go.Proofs.Ybulkdew
open Go.RowKit
set_option linter.unusedVariables false

/-- The closure's value, by the six variables that it captured. -/
def clo (q1 q2 q3 q4 q5 q6 : Nat) : Value := .func (Fn.func 12) #[] #[.pointer (some ⟨q1, 0, none⟩), .pointer (some ⟨q2, 0, none⟩), .pointer (some ⟨q3, 0, none⟩), .pointer (some ⟨q4, 0, none⟩), .pointer (some ⟨q5, 0, none⟩), .pointer (some ⟨q6, 0, none⟩)]

/-- In every world that parts from w in block g alone: called at (aLo + x - 1, bLo + y - 1), x and y at least 1, the closure says whether the snake may take a step back. -/
def EqFn (c : Parts) (q1 q2 q3 q4 q5 q6 g : Nat) (w : World) (aLo bLo : Int) : Prop :=
  ∀ W, w.grownBy W (some g) → ∀ x y : Int, 1 ≤ x → 1 ≤ y → x ≤ 3000 → y ≤ 6000 →
    Calls Yba.prog 12 #[.int .i64 (aLo + x - 1), .int .i64 (bLo + y - 1), .pointer (some ⟨q1, 0, none⟩), .pointer (some ⟨q2, 0, none⟩), .pointer (some ⟨q3, 0, none⟩), .pointer (some ⟨q4, 0, none⟩), .pointer (some ⟨q5, 0, none⟩), .pointer (some ⟨q6, 0, none⟩)] W
      fun e w' => e = .returned (.bool (c.may x y)) ∧ ∃ q, w' = W.drewN q

theorem may_le {c : Parts} {x y : Int} (h : c.may x y = true) : 1 ≤ x ∧ 1 ≤ y := by
  unfold Parts.may at h
  simp only [Bool.and_eq_true, decide_eq_true_eq] at h
  exact ⟨h.1.1.1.1, h.1.1.1.2⟩

set_option maxHeartbeats 1000000 in
set_option maxRecDepth 100000 in
theorem snakeF (c : Parts) (q1 q2 q3 q4 q5 q6 g : Nat) (w W : World) (aLo bLo x y : Int) (hE : EqFn c q1 q2 q3 q4 q5 q6 g w aLo bLo) (hW : w.grownBy W (some g))
    (ha : 0 ≤ aLo ∧ aLo ≤ 300) (hb : 0 ≤ bLo ∧ bLo ≤ 300) (hx : -3000 ≤ x ∧ x ≤ 3000) (hy : -6000 ≤ y ∧ y ≤ 6000) :
    Calls Yba.prog 19 #[clo q1 q2 q3 q4 q5 q6, .int .i64 aLo, .int .i64 bLo, .int .i64 x, .int .i64 y] W fun e w' => e = .returned (.tuple #[.int .i64 (c.snk x y), .int .i64 (c.snk x y + (y - x))]) ∧ ∃ q, w' = W.drewN q := by
  unfold clo
  go_enter Yba.func19, Yba.ntmps19
  go_wp2
  go_loopg [3, 4] x.toNat (fun gh s3 s4 wr => ∃ (X Y : Int) (q : Nat), X.toNat ≤ gh ∧ s3 = .int .i64 X ∧ s4 = .int .i64 Y ∧ X ≤ x ∧ (x ≤ X ∨ 0 ≤ X) ∧ wr = W.drewN q ∧ Hid (Y = X + (y - x)) ∧ -6000 ≤ Y ∧ Y ≤ 6000 ∧ Hid (c.snk X Y = c.snk x y))
  case atStart => exact ⟨x, y, 0, Nat.le_refl _, rfl, rfl, Int.le_refl _, .inl (Int.le_refl _), rfl, show _ = _ by omega, hy.1, hy.2, rfl⟩
  case round =>
    obtain ⟨X, Y, q, hg, rfl, rfl, hX1, hX2, rfl, HY, hY1, hY2, HE⟩ := hrel
    have hgr : w.grownBy (W.drewN q) (some g) := ⟨hW.os, hW.tape, hW.output, hW.size, hW.block⟩
    by_cases h1 : 0 < X
    · by_cases h2 : 0 < Y
      · have hc := hE (W.drewN q) hgr X Y (by omega) (by omega) (by omega) (by omega)
        have HCl : Hid _ := hc
        clear hc
        go_wp2_with fail
        refine Calls.mono HCl.out ?_
        rintro e w1 ⟨rfl, q2', hw1⟩
        rw [hw1]
        clear hw1
        cases hm : c.may X Y with
        | true =>
          have HM : Hid _ := hm
          clear hm
          go_wp2
          go_roundg (X - 1).toNat
          case measure => omega
          case rel =>
            refine ⟨X - 1, Y - 1, q + q2', Nat.le_refl _, rfl, rfl, by omega, by omega, by simp, show _ = _ by have := HY.out; omega, by omega, by omega, ?_⟩
            show c.snk (X - 1) (Y - 1) = c.snk x y
            rw [← HE.out, c.snk_step X Y HM.out]
        | false =>
          have HM : Hid _ := hm
          clear hm
          go_wp2
          go_ret2
          have hs : X = c.snk x y := by rw [← HE.out]; exact (c.snk_stop _ _ HM.out).symm
          exact ⟨ret_two hs (by have := HY.out; omega), _, rfl⟩
      · have HM : Hid (c.may X Y = false) := by
          show _ = _
          cases hm : c.may X Y with
          | true => have := may_le hm; omega
          | false => rfl
        go_wp2
        go_ret2
        have hs : X = c.snk x y := by rw [← HE.out]; exact (c.snk_stop _ _ HM.out).symm
        exact ⟨ret_two hs (by have := HY.out; omega), _, rfl⟩
    · have HM : Hid (c.may X Y = false) := by
        show _ = _
        cases hm : c.may X Y with
        | true => have := may_le hm; omega
        | false => rfl
      go_wp2
      go_ret2
      have hs : X = c.snk x y := by rw [← HE.out]; exact (c.snk_stop _ _ HM.out).symm
      exact ⟨ret_two hs (by have := HY.out; omega), _, rfl⟩
end Go.Proofs.Ybulkdew
