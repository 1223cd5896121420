import Derived.Test.YbulkdewMax
namespace Go.Proofs.Ybulkdew
open Go.RowKit
set_option linter.unusedVariables false

/-- The greatest of acc and the first k numbers. -/
def mx (acc : Int) (l : List Int) : Int := l.foldl (fun m z => if m < z then z else m) acc

theorem take_succ_getD {zs : List Int} {j : Nat} (h : j < zs.length) : zs.take (j + 1) = zs.take j ++ [zs.getD j 0] := by
  rw [List.take_succ_eq_append_getElem h, List.getD_eq_getElem?_getD, List.getElem?_eq_getElem h]; rfl
theorem mx_snoc (acc : Int) (l : List Int) (z : Int) : mx acc (l ++ [z]) = if mx acc l < z then z else mx acc l := by unfold mx; rw [List.foldl_append]; rfl
theorem mx_step {acc : Int} {zs : List Int} {j len : Nat} {m z : Int} (hs : zs.length = len) (hj : j < len) (hz : zs.getD j 0 = z) (hm : mx acc (zs.take j) = m) :
    mx acc (zs.take (j + 1)) = if m < z then z else m := by
  rw [take_succ_getD (by omega), mx_snoc, hz, hm]

set_option maxHeartbeats 1000000 in
set_option maxRecDepth 100000 in
theorem largest (p : Nat) (a0 a1 : Option Addr) (len0 cap0 len1 cap1 : Nat) (z0 z1 : List Int) (w : World)
    (c0 : w.cell? ⟨p, 0, none⟩ = some (.slice a0 len0 cap0)) (c1 : w.cell? ⟨p, 1, none⟩ = some (.slice a1 len1 cap1))
    (h0 : View .i64 w a0 len0 z0) (h1 : View .i64 w a1 len1 z1) (hl0 : len0 ≤ 100000) (hl1 : len1 ≤ 100000) :
    Calls Yba.prog 13 #[.pointer (some ⟨p, 0, none⟩)] w fun e w' => e = .returned (.int .i64 (mx (mx (-1) z0) z1)) ∧ Below w.heap.size w w' := by
  go_enter Yba.func13, Yba.ntmps13
  go_wp2_with fail
  go_region_held3 (fun W => W.cell? ⟨p, 0, none⟩ = some (.slice a0 len0 cap0) ∧ W.cell? ⟨p, 1, none⟩ = some (.slice a1 len1 cap1)) (go_keep) (fail)
  go_wp2_with fail
  obtain ⟨W, hW⟩ : ∃ W, W = (w.alloc (.cells #[.slice a0 len0 cap0, .slice a1 len1 cap1] 22)).drew := ⟨_, rfl⟩
  have hB : Below w.heap.size w W := by rw [hW]; exact ((Below.refl _ w).alloc (Nat.le_refl _) _).drew
  have v0 := h0.below hB
  have v1 := h1.below hB
  have d0 : W.cell? ⟨w.heap.size, 0, none⟩ = some (.slice a0 len0 cap0) := by rw [hW]; simp
  have d1 : W.cell? ⟨w.heap.size, 1, none⟩ = some (.slice a1 len1 cap1) := by rw [hW]; simp
  rw [← hW]
  clear hW h0 h1 c0 c1
  go_loopg [3, 18] 2 (fun g s3 s18 wr => ∃ k : Nat, k ≤ 2 ∧ 2 - k ≤ g ∧ s18 = .int .i64 k ∧ wr = W ∧ s3 = .int .i64 (if k = 0 then -1 else if k = 1 then mx (-1) z0 else mx (mx (-1) z0) z1))
  case atStart => exact ⟨0, by omega, by omega, rfl, rfl, rfl⟩
  case round =>
    obtain ⟨k, hk, hg, rfl, rfl, rfl⟩ := hrel
    have hks : k = 0 ∨ k = 1 ∨ k = 2 := by omega
    rcases hks with rfl | rfl | rfl
    · go_wp2_with fail
      go_loopg [3, 24] len0 (fun g s3 s24 wr' => ∃ j : Nat, j ≤ len0 ∧ len0 - j ≤ g ∧ s24 = .int .i64 j ∧ wr' = wr ∧ s3 = .int .i64 (mx (-1) (z0.take j)))
      case atStart => exact ⟨0, by omega, by omega, rfl, rfl, rfl⟩
      case round =>
        obtain ⟨j, hj, hg, rfl, rfl, rfl⟩ := hrel
        by_cases hlt : j < len0
        · have hs := v0.size
          obtain ⟨b, off, rfl, hbw, hc⟩ := v0.cells (by omega)
          have g1 := hc j hlt
          clear hc v0 v1
          generalize hzj : z0.getD j 0 = zj at g1
          generalize hmj : mx (-1) (z0.take j) = m
          have HM : Hid (mx (-1) (z0.take (j + 1)) = if m < zj then zj else m) := mx_step hs hlt hzj hmj
          clear hzj hmj hs
          by_cases hm : m < zj
          all_goals
            go_wp2_with fail
            all_goals
              first
              | omega
              | (go_roundg (len0 - (j + 1))
                 case measure => omega
                 case rel => exact ⟨j + 1, by omega, by omega, by go_num, rfl, by rw [HM.out]; first | rw [if_pos hm] | rw [if_neg (by omega)]⟩)
        · have hs := v0.size
          have ht : z0.take j = z0 := List.take_of_length_le (by omega)
          rw [ht]
          clear ht hs
          go_wp2_with fail
          go_roundg 1
          case measure => omega
          case rel => exact ⟨1, by omega, by omega, by go_num, rfl, rfl⟩
    · go_wp2_with fail
      go_loopg [3, 24] len1 (fun g s3 s24 wr' => ∃ j : Nat, j ≤ len1 ∧ len1 - j ≤ g ∧ s24 = .int .i64 j ∧ wr' = wr ∧ s3 = .int .i64 (mx (mx (-1) z0) (z1.take j)))
      case atStart => exact ⟨0, by omega, by omega, rfl, rfl, rfl⟩
      case round =>
        obtain ⟨j, hj, hg, rfl, rfl, rfl⟩ := hrel
        by_cases hlt : j < len1
        · have hs := v1.size
          obtain ⟨b, off, rfl, hbw, hc⟩ := v1.cells (by omega)
          have g1 := hc j hlt
          clear hc v0 v1
          generalize hzj : z1.getD j 0 = zj at g1
          generalize hmj : mx (mx (-1) z0) (z1.take j) = m
          have HM : Hid (mx (mx (-1) z0) (z1.take (j + 1)) = if m < zj then zj else m) := mx_step hs hlt hzj hmj
          clear hzj hmj hs
          by_cases hm : m < zj
          all_goals
            go_wp2_with fail
            all_goals
              first
              | omega
              | (go_roundg (len1 - (j + 1))
                 case measure => omega
                 case rel => exact ⟨j + 1, by omega, by omega, by go_num, rfl, by rw [HM.out]; first | rw [if_pos hm] | rw [if_neg (by omega)]⟩)
        · have hs := v1.size
          have ht : z1.take j = z1 := List.take_of_length_le (by omega)
          rw [ht]
          clear ht hs
          go_wp2_with fail
          go_roundg 0
          case measure => omega
          case rel => exact ⟨2, by omega, by omega, by go_num, rfl, rfl⟩
    · go_wp2
      go_ret
      exact ⟨rfl, hB⟩

theorem mx_ge (l : List Int) : ∀ acc, acc ≤ mx acc l := by
  induction l with
  | nil => intro acc; exact Int.le_refl _
  | cons x l ih =>
    intro acc
    have := ih (if acc < x then x else acc)
    have e : mx acc (x :: l) = mx (if acc < x then x else acc) l := rfl
    rw [e]
    have h2 : acc ≤ (if acc < x then x else acc) := by split <;> omega
    omega
theorem mx_mem (l : List Int) : ∀ acc z, z ∈ l → z ≤ mx acc l := by
  induction l with
  | nil => intro acc z hz; cases hz
  | cons x l ih =>
    intro acc z hz
    have e : mx acc (x :: l) = mx (if acc < x then x else acc) l := rfl
    rw [e]
    rcases List.mem_cons.1 hz with rfl | h
    · have := mx_ge l (if acc < z then z else acc)
      have h2 : z ≤ (if acc < z then z else acc) := by split <;> omega
      omega
    · exact ih _ z h
theorem mx_in (l : List Int) : ∀ acc, mx acc l = acc ∨ mx acc l ∈ l := by
  induction l with
  | nil => intro acc; exact .inl rfl
  | cons x l ih =>
    intro acc
    have e : mx acc (x :: l) = mx (if acc < x then x else acc) l := rfl
    rw [e]
    rcases ih (if acc < x then x else acc) with h | h
    · rw [h]
      by_cases hx : acc < x
      · right; rw [if_pos hx]; exact List.mem_cons_self
      · left; rw [if_neg hx]
    · exact .inr (List.mem_cons_of_mem _ h)

theorem law_max (z0 z1 : List Int) (r : Int) (h : r = mx (mx (-1) z0) z1) :
    -1 ≤ r ∧ z0.all (fun z => decide (z ≤ r)) = true ∧ z1.all (fun z => decide (z ≤ r)) = true ∧ (r = -1 ∨ z0.any (fun z => decide (z = r)) = true ∨ z1.any (fun z => decide (z = r)) = true) := by
  subst h
  have g0 := mx_ge z0 (-1)
  have g1 := mx_ge z1 (mx (-1) z0)
  refine ⟨by omega, ?_, ?_, ?_⟩
  · rw [List.all_eq_true]; intro z hz; have := mx_mem z0 (-1) z hz; simp; omega
  · rw [List.all_eq_true]; intro z hz; have := mx_mem z1 (mx (-1) z0) z hz; simp; omega
  · rcases mx_in z1 (mx (-1) z0) with h1 | h1
    · rw [h1]
      rcases mx_in z0 (-1) with h0 | h0
      · exact .inl h0
      · right; left; rw [List.any_eq_true]; exact ⟨_, h0, by simp⟩
    · right; right; rw [List.any_eq_true]; exact ⟨_, h1, by simp⟩

set_option maxHeartbeats 1000000 in
set_option maxRecDepth 100000 in
theorem cmax (a0 : Option Addr) (len0 cap0 : Nat) (z0 : List Int) (a1 : Option Addr) (len1 cap1 : Nat) (z1 : List Int) (w : World) (h0 : View .i64 w a0 len0 z0) (h1 : View .i64 w a1 len1 z1) (hl0 : len0 ≤ 1024) (hl1 : len1 ≤ 1024) :
    Calls Yba.prog 5 #[.slice a0 len0 cap0, .slice a1 len1 cap1] w fun e w' => e = .returned (.bool true) ∧ Below w.heap.size w w' := by
  have q0 : ¬ (1024 : Int) < (len0 : Int) := by omega
  have q1 : ¬ (1024 : Int) < (len1 : Int) := by omega
  have hA : ∀ o, Below w.heap.size w (w.alloc o) := fun o => (Below.refl _ w).alloc (Nat.le_refl _) o
  have HA : Hid _ := hA
  clear hA
  go_enter Yba.func5, Yba.ntmps5
  go_wp2_with fail
  refine (largest w.heap.size a0 a1 len0 cap0 len1 cap1 z0 z1 _ (by simp) (by simp) (h0.below (HA.out _)) (h1.below (HA.out _)) (by omega) (by omega)).mono ?_
  rintro e w1 ⟨rfl, hb1⟩
  have hB : Below w.heap.size w w1 := (HA.out _).trans (hb1.mono (by simp))
  have v0 := h0.below hB
  have v1 := h1.below hB
  clear hb1 h0 h1 HA
  generalize hr : mx (mx (-1) z0) z1 = r
  obtain ⟨p0, p1, p2, p3⟩ := law_max z0 z1 r hr.symm
  clear hr
  have B0 := bounds_any a0 len0 cap0 z0 r w1 v0 (by omega)
  have B1 := bounds_any a1 len1 cap1 z1 r w1 v1 (by omega)
  have I0 := in_any a0 len0 cap0 z0 r w1 v0 (by omega)
  have I1 := in_any a1 len1 cap1 z1 r w1 v1 (by omega)
  rw [p1] at B0
  rw [p2] at B1
  have HB0 : Hid _ := B0
  have HB1 : Hid _ := B1
  have HI0 : Hid _ := I0
  have HI1 : Hid _ := I1
  clear B0 B1 I0 I1 p1 p2 v0 v1
  have q2 : ¬ r < -1 := by omega
  go_wp2_with fail
  refine Calls.mono HB0.out ?_
  rintro e w' ⟨rfl, rfl⟩
  go_wp2_with fail
  refine Calls.mono HB1.out ?_
  rintro e w' ⟨rfl, rfl⟩
  by_cases hr1 : r = -1
  · have hr2 : (r == -1) = true := by simpa using hr1
    clear hr1 p3
    go_wp2_with fail
    go_ret
    exact ⟨rfl, hB⟩
  · have hr2 : (r == -1) = false := by simpa using hr1
    go_wp2_with fail
    refine Calls.mono HI0.out ?_
    rintro e w' ⟨rfl, rfl⟩
    cases hi0 : z0.any (fun z => decide (z = r)) with
    | true =>
      clear p3
      go_wp2_with fail
      go_ret
      exact ⟨rfl, hB⟩
    | false =>
      have hi1 : z1.any (fun z => decide (z = r)) = true := by rcases p3 with h | h | h; exact absurd h hr1; rw [hi0] at h; cases h; exact h
      clear p3
      go_wp2_with fail
      refine Calls.mono HI1.out ?_
      rintro e w' ⟨rfl, rfl⟩
      rw [hi1]
      go_wp2_with fail
      go_ret
      exact ⟨rfl, hB⟩
end Go.Proofs.Ybulkdew
