import Derived.Test.YbulkdewSymbols
import Derived.Deep.DeepCutAuto
import Derived.Deep.DeepFit
import Derived.Deep.DeepMust
namespace Go.Proofs.Ybulkdew
open Go.RowKit
set_option linter.unusedVariables false

theorem low_bits (l n m d : Int) (hn : 0 ≤ n ∧ n ≤ 1000) (hm : 0 ≤ m ∧ m ≤ 1000) (hd : 0 ≤ d ∧ d ≤ 10000) (hl : l = if n - m - d < -m then -m else n - m - d) :
    wrap64 (l + bits BinOp.and IntKind.i64 (l - (n - m) + d) 1) = lowD n m d := by
  have h0 : 0 ≤ l - (n - m) + d := by subst hl; split <;> omega
  have h1 : l - (n - m) + d < 9223372036854775808 := by subst hl; split <;> omega
  rw [and_one _ h0 h1]
  unfold lowD
  rw [← hl]
  have h2 : -20000 ≤ l ∧ l ≤ 20000 := by subst hl; split <;> omega
  unfold wrap64
  omega

set_option maxHeartbeats 400000 in
theorem diag (n m d : Int) (w : World) (hn : 0 ≤ n ∧ n ≤ 1000) (hm : 0 ≤ m ∧ m ≤ 1000) (hd : 0 ≤ d ∧ d ≤ 10000) :
    Calls Yba.prog 16 #[.int .i64 (n - m), .int .i64 d, .int .i64 n, .int .i64 m] w fun e w' => e = .returned (.tuple #[.int .i64 (lowD n m d), .int .i64 (highD n m d)]) ∧ w' = w := by
  by_cases h1 : n - m - d < -m
  · have HL : Hid _ := low_bits (-m) n m d hn hm hd (by rw [if_pos h1])
    by_cases h2 : n < n - m + d
    · have HH : Hid (highD n m d = n) := by show highD n m d = n; unfold highD; rw [if_pos h2]
      go_enter Yba.func16, Yba.ntmps16
      go_wp2
      go_ret2
      exact ⟨ret_two HL.out HH.out.symm, rfl⟩
    · have HH : Hid (highD n m d = n - m + d) := by show highD n m d = n - m + d; unfold highD; rw [if_neg h2]
      go_enter Yba.func16, Yba.ntmps16
      go_wp2
      go_ret2
      exact ⟨ret_two HL.out HH.out.symm, rfl⟩
  · have HL : Hid _ := low_bits (n - m - d) n m d hn hm hd (by rw [if_neg h1])
    by_cases h2 : n < n - m + d
    · have HH : Hid (highD n m d = n) := by show highD n m d = n; unfold highD; rw [if_pos h2]
      go_enter Yba.func16, Yba.ntmps16
      go_wp2
      go_ret2
      exact ⟨ret_two HL.out HH.out.symm, rfl⟩
    · have HH : Hid (highD n m d = n - m + d) := by show highD n m d = n - m + d; unfold highD; rw [if_neg h2]
      go_enter Yba.func16, Yba.ntmps16
      go_wp2
      go_ret2
      exact ⟨ret_two HL.out HH.out.symm, rfl⟩

end Go.Proofs.Ybulkdew
