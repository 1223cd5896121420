import Derived.Test.YbulkddgRows
import Derived.WalkKit
import Derived.WalkSpells
import Derived.WalkLawsBesides
import Derived.Defers
import Derived.Laws.Pointers
import Derived.Laws.LoneSync
import Derived.Laws.EntriesVeiled
namespace Go.Proofs.Ybulkddg
open Go.RowKit
set_option linter.unusedVariables false

theorem disable (w : World) : (callFunc 20 #[]).run Yba.prog w = .ok (.value (.tuple #[])) w := run_call_mark0 Yba.func20 (by kernel_rfl) (by kernel_rfl) (by kernel_rfl) .disable (by kernel_rfl) w
theorem enable (w : World) : (callFunc 21 #[]).run Yba.prog w = .ok (.value (.tuple #[])) w := run_call_mark0 Yba.func21 (by kernel_rfl) (by kernel_rfl) (by kernel_rfl) .enable (by kernel_rfl) w
theorem acquire (a : Addr) (w : World) : (callFunc 23 #[.pointer (some a)]).run Yba.prog w = .ok (.value (.tuple #[])) w := run_call_marked Yba.func23 (by kernel_rfl) (by kernel_rfl) (by kernel_rfl) .acquire (by kernel_rfl) a w
theorem releaseMerge (a : Addr) (w : World) : (callFunc 24 #[.pointer (some a)]).run Yba.prog w = .ok (.value (.tuple #[])) w := run_call_marked Yba.func24 (by kernel_rfl) (by kernel_rfl) (by kernel_rfl) .releaseMerge (by kernel_rfl) a w

set_option maxHeartbeats 800000 in
theorem unlock_deferred (a : Addr) (u : FrameMode) (w : World) (hc : w.cell? a = some (.int .i32 1)) (hz : w.frozen? a = false) :
    CallsD Yba.prog 9 #[.pointer (some a)] u w fun e u' w' => u' = u ∧ (e = .returned (.tuple #[]) ∧ w' = w.setCell a (.int .i32 0)) := by
  have hd := disable
  have he := enable
  have hr := releaseMerge
  have hcv := run_convert_to_unsafe (P := Yba.prog) (src := 60) (dst := 64) Yba.underlying60 Yba.underlying64 (by kernel_rfl) hc
  have hadd := run_call_add (P := Yba.prog) Yba.func25 (by kernel_rfl) (by kernel_rfl) (by kernel_rfl) .i32 (by kernel_rfl) (y := -1) (s := 0) hc hz (by simp [go_sem]; rfl)
  go_enter_d Yba.func9, Yba.ntmps9
  go_wp2
  go_end0
  go_wp2
  go_end0
  exact ⟨rfl, rfl⟩

set_option maxHeartbeats 800000 in
theorem unlock_held (a : Addr) (w : World) (hc : w.cell? a = some (.int .i32 1)) (hz : w.frozen? a = false) :
    Calls Yba.prog 9 #[.pointer (some a)] w fun e w' => e = .returned (.tuple #[]) ∧ w' = w.setCell a (.int .i32 0) := by
  have hd := disable
  have he := enable
  have hr := releaseMerge
  have hcv := run_convert_to_unsafe (P := Yba.prog) (src := 60) (dst := 64) Yba.underlying60 Yba.underlying64 (by kernel_rfl) hc
  have hadd := run_call_add (P := Yba.prog) Yba.func25 (by kernel_rfl) (by kernel_rfl) (by kernel_rfl) .i32 (by kernel_rfl) (y := -1) (s := 0) hc hz (by simp [go_sem]; rfl)
  go_enter Yba.func9, Yba.ntmps9
  go_wp2
  go_end0
  go_wp2
  go_end0
  exact ⟨rfl, rfl⟩

set_option maxHeartbeats 800000 in
theorem lock_free (a : Addr) (w : World) (hc : w.cell? a = some (.int .i32 0)) (hz : w.frozen? a = false) :
    Calls Yba.prog 17 #[.pointer (some a)] w fun e w' => e = .returned (.tuple #[]) ∧ w' = w.setCell a (.int .i32 1) := by
  have hd := disable
  have he := enable
  have ha := acquire
  have hcas := run_call_cas_hit (P := Yba.prog) Yba.func22 (by kernel_rfl) (by kernel_rfl) (by kernel_rfl) .i32 (by kernel_rfl) (y := 1) hc hz
  have h0' : (w.setCell a (.int .i32 1)).cell? a = some (.int .i32 1) := by simp [go_sem, hc]
  have hcv := run_convert_to_unsafe (P := Yba.prog) (src := 60) (dst := 64) Yba.underlying60 Yba.underlying64 (by kernel_rfl) h0'
  go_enter Yba.func17, Yba.ntmps17
  go_wp2
  first | go_end0 | (simp only [Exit.inBlock, Exit.then]; refine bodyPost_ret (results_none rfl _ _ _) rfl ?_) | refine bodyPost_ret (results_none rfl _ _ _) rfl ?_
  go_wp2
  go_end0
  exact ⟨rfl, rfl⟩

set_option maxHeartbeats 800000 in
theorem try_free (a : Addr) (w : World) (hc : w.cell? a = some (.int .i32 0)) (hz : w.frozen? a = false) :
    Calls Yba.prog 8 #[.pointer (some a)] w fun e w' => e = .returned (.bool true) ∧ w' = w.setCell a (.int .i32 1) := by
  have hd := disable
  have he := enable
  have ha := acquire
  have hcas := run_call_cas_hit (P := Yba.prog) Yba.func22 (by kernel_rfl) (by kernel_rfl) (by kernel_rfl) .i32 (by kernel_rfl) (y := 1) hc hz
  have h0' : (w.setCell a (.int .i32 1)).cell? a = some (.int .i32 1) := by simp [go_sem, hc]
  have hcv := run_convert_to_unsafe (P := Yba.prog) (src := 60) (dst := 64) Yba.underlying60 Yba.underlying64 (by kernel_rfl) h0'
  go_enter Yba.func8, Yba.ntmps8
  go_wp2
  go_ret
  exact ⟨rfl, rfl⟩

set_option maxHeartbeats 800000 in
theorem try_held (a : Addr) (w : World) (hc : w.cell? a = some (.int .i32 1)) (hz : w.frozen? a = false) :
    Calls Yba.prog 8 #[.pointer (some a)] w fun e w' => e = .returned (.bool false) ∧ w' = w := by
  have hd := disable
  have he := enable
  go_enter Yba.func8, Yba.ntmps8
  go_wp2
  go_ret
  exact ⟨rfl, rfl⟩
end Go.Proofs.Ybulkddg
