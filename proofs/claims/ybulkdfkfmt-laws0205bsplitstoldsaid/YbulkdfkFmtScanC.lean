import Derived.Test.YbulkdfkFmtScanB
import Derived.Laws.BytesArg
namespace Go.Proofs.YbulkdfkFmt
open Go.RowKit
open Go.WideShapes (add_plain)
set_option linter.unusedVariables false

theorem wrap_small {z : Int} (h1 : 0 ≤ z) (h2 : z ≤ 4611686018427387904) : IntKind.i64.wrap z = z := by
  simp [IntKind.wrap, IntKind.signed, IntKind.bits]
  omega

set_option maxRecDepth 100000 in
theorem literal_to {T : List Int} {d C k : Nat} {w : World} {o : Nat} (l : List Int) (hS : Sc T d C k w o) (hseg : Seg T o l) (hn : 0 < l.length) :
    Calls Ybaf.prog 48 #[.pointer (some ⟨k, 0, none⟩), .string (strOfNums l)] w fun x w' => x = .returned .nilIface ∧ At T d C k w w' (o + l.length) := by
  have hl := hS.hl
  have hc := hS.hc
  have c0 := hS.c0
  have c1 := hS.c1
  have f1 := hS.f1
  have hbig := hseg.1
  have hsz : (strOfNums l).size = l.length := strOfNums_size l
  have hcv : ∀ q, (convert 22 9 (.slice (some ⟨d, o, none⟩) l.length (C - o))).run Ybaf.prog (w.drewN q) = .ok (.string (strOfNums l)) (w.drewN q) := fun q =>
    run_convert_bytes_arg (w.drewN q) 22 5 Ybaf.underlying22 Ybaf.underlying5 d o l.length (C - o) l rfl (fun i hi => by show w.cell? _ = _; rw [hS.t _ (by omega), hseg.2 i hi]) 9 Ybaf.underlying9
  have HA : Hid (At T d C k w w o) := At.refl hS
  have m1 : ¬ (T.length : Int) - (o : Int) < ((strOfNums l).size : Int) := by omega
  have m2 : (o : Int) ≤ (o : Int) + ((strOfNums l).size : Int) := by omega
  have m3 : (o : Int) + ((strOfNums l).size : Int) ≤ (C : Int) := by omega
  have m4 : IntKind.i64.wrap ((T.length : Int) - (o : Int)) = (T.length : Int) - (o : Int) := wrap_small (by omega) (by omega)
  have m5 : IntKind.i64.wrap ((o : Int) + ((strOfNums l).size : Int)) = (o : Int) + ((strOfNums l).size : Int) := wrap_small (by omega) (by omega)
  have m7 : ((o : Int) + ((strOfNums l).size : Int)).toNat - o = (strOfNums l).size := by omega
  have m8 : ¬ C = o := by omega
  have m6 : decide ((T.length : Int) - (o : Int) < ((strOfNums l).size : Int)) = false := by simp; omega
  generalize strOfNums l = s at *
  generalize l.length = n at *
  clear hS hseg
  subst hsz
  go_enter Ybaf.func48, Ybaf.ntmps48
  go_wp2_with fail
  go_quiet (fail)
  go_wp2_with fail
  go_ret
  exact ⟨rfl, HA.out.mv _ ((o : Int) + (s.size : Int)) (by omega) ⟨rfl, rfl, rfl, rfl⟩⟩

theorem beq_of_ne {x c : Int} (h : x ≠ c) : (x == c) = false := by simpa using h
theorem beq_of_eq {x c : Int} (h : x = c) : (x == c) = true := by simpa using h


set_option maxRecDepth 100000 in
/-- One digit, then no digit, no point and no exponent. -/
theorem number_zero {T : List Int} {d C k : Nat} {w : World} {o : Nat} (hS : Sc T d C k w o) (ho : o + 1 < T.length) (hx : T.getD o 0 = 48)
    (y2 : T.getD (o + 1) 0 ≠ 46) (y3 : T.getD (o + 1) 0 ≠ 101) (y4 : T.getD (o + 1) 0 ≠ 69) :
    Calls Ybaf.prog 50 #[.pointer (some ⟨k, 0, none⟩)] w fun x w' => x = .returned .nilIface ∧ At T d C k w w' (o + 1) := by
  have hl := hS.hl
  go_enter Ybaf.func50, Ybaf.ntmps50
  go_wp2_with fail
  refine Calls.mono (at_at 45 false hS (by omega) (by rw [hx]; rfl)) ?_
  rintro e w1 ⟨rfl, hA1⟩
  go_wp2_with fail
  refine Calls.mono (at_at 48 true hA1.sc (by omega) (by rw [hx]; rfl)) ?_
  rintro e w2 ⟨rfl, hA2⟩
  have hA2 := hA1.trans hA2
  have c1 := hA2.sc.c1
  have f1 := hA2.sc.f1
  go_wp2_with fail
  have hA3 : At T d C k w (w2.setCell ⟨k, 1, none⟩ (.int .i64 ((o : Int) + 1))) (o + 1) := hA2.mv _ ((o : Int) + 1) (by omega) ⟨rfl, rfl, rfl, rfl⟩
  refine Calls.mono (at_at 46 false hA3.sc (by omega) (beq_of_ne y2)) ?_
  rintro e w4 ⟨rfl, hA4⟩
  have hA4 := hA3.trans hA4
  clear c1 f1 hA1 hA2 hA3
  go_wp2_with fail
  refine Calls.mono (at_at 101 false hA4.sc (by omega) (beq_of_ne y3)) ?_
  rintro e w5 ⟨rfl, hA5⟩
  have hA5 := hA4.trans hA5
  go_wp2_with fail
  refine Calls.mono (at_at 69 false hA5.sc (by omega) (beq_of_ne y4)) ?_
  rintro e w6 ⟨rfl, hA6⟩
  have hA6 := hA5.trans hA6
  go_wp2_with fail
  go_ret
  exact ⟨rfl, hA6⟩

set_option maxRecDepth 100000 in
theorem number_one {T : List Int} {d C k : Nat} {w : World} {o : Nat} (x : Int) (hS : Sc T d C k w o) (ho : o + 1 < T.length) (hx : T.getD o 0 = x) (x1 : x ≠ 45) (x2 : x ≠ 48) (x3 : isDig x = true)
    (y1 : isDig (T.getD (o + 1) 0) = false) (y2 : T.getD (o + 1) 0 ≠ 46) (y3 : T.getD (o + 1) 0 ≠ 101) (y4 : T.getD (o + 1) 0 ≠ 69) :
    Calls Ybaf.prog 50 #[.pointer (some ⟨k, 0, none⟩)] w fun x w' => x = .returned .nilIface ∧ At T d C k w w' (o + 1) := by
  have hl := hS.hl
  have hd := isDigit_of x true
  have g2 : (0 : Int) ≤ (o : Int) := by omega
  have g1 : (o : Int) < (T.length : Int) := by omega
  go_enter Ybaf.func50, Ybaf.ntmps50
  go_wp2_with fail
  refine Calls.mono (at_at 45 false hS (by omega) (by rw [hx]; exact beq_of_ne x1)) ?_
  rintro e w1 ⟨rfl, hA1⟩
  go_wp2_with fail
  refine Calls.mono (at_at 48 false hA1.sc (by omega) (by rw [hx]; exact beq_of_ne x2)) ?_
  rintro e w2 ⟨rfl, hA2⟩
  have hA2 := hA1.trans hA2
  have c0 := hA2.sc.c0
  have c1 := hA2.sc.c1
  have ct := hA2.sc.t o (by omega)
  rw [hx] at ct
  go_wp2_with fail
  go_region_held3 (fun W => W.cell? ⟨k, 0, none⟩ = some (.slice (some ⟨d, 0, none⟩) T.length C) ∧ W.cell? ⟨k, 1, none⟩ = some (.int .i64 o) ∧ W.cell? ⟨d, o, none⟩ = some (.int .u8 x)) (go_keep) (first | (go_at_call 49; refine (hd _ x3).mono ?_; rintro e1 w1' ⟨rfl, rfl⟩))
  go_wp2_with fail
  have hA3 : At T d C k w w2.drew o := hA2.same (by exact ⟨rfl, rfl, rfl, rfl⟩)
  refine Calls.mono (digits_to (o + 1) true hA3.sc (by omega) ho (fun i h1 h2 => by obtain rfl : i = o := (by omega); rw [hx]; exact x3) y1 (by simp)) ?_
  rintro e w4 ⟨rfl, hA4⟩
  have hA4 := hA3.trans hA4
  clear c0 c1 ct hA1 hA2 hA3
  go_wp2_with fail
  refine Calls.mono (at_at 46 false hA4.sc (by omega) (beq_of_ne y2)) ?_
  rintro e w5 ⟨rfl, hA5⟩
  have hA5 := hA4.trans hA5
  go_wp2_with fail
  refine Calls.mono (at_at 101 false hA5.sc (by omega) (beq_of_ne y3)) ?_
  rintro e w6 ⟨rfl, hA6⟩
  have hA6 := hA5.trans hA6
  go_wp2_with fail
  refine Calls.mono (at_at 69 false hA6.sc (by omega) (beq_of_ne y4)) ?_
  rintro e w7 ⟨rfl, hA7⟩
  have hA7 := hA6.trans hA7
  go_wp2_with fail
  go_ret
  exact ⟨rfl, hA7⟩

set_option maxRecDepth 100000 in
/-- "-1.5e+3". -/
theorem number_full {T : List Int} {d C k : Nat} {w : World} {o : Nat} (hS : Sc T d C k w o) (hseg : Seg T o [45, 49, 46, 53, 101, 43, 51]) (ho : o + 7 < T.length)
    (y1 : isDig (T.getD (o + 7) 0) = false) :
    Calls Ybaf.prog 50 #[.pointer (some ⟨k, 0, none⟩)] w fun x w' => x = .returned .nilIface ∧ At T d C k w w' (o + 7) := by
  have hl := hS.hl
  have hd := isDigit_of 49 true
  have g2 : (0 : Int) ≤ (o : Int) := by omega
  have g1 : ((o : Int) + 1) < (T.length : Int) := by omega
  have t0 : T.getD o 0 = 45 := hseg.head
  have t1 : T.getD (o + 1) 0 = 49 := hseg.tail.head
  have t2 : T.getD (o + 2) 0 = 46 := hseg.tail.tail.head
  have t3 : T.getD (o + 3) 0 = 53 := hseg.tail.tail.tail.head
  have t4 : T.getD (o + 4) 0 = 101 := hseg.tail.tail.tail.tail.head
  have t5 : T.getD (o + 5) 0 = 43 := hseg.tail.tail.tail.tail.tail.head
  have t6 : T.getD (o + 6) 0 = 51 := hseg.tail.tail.tail.tail.tail.tail.head
  go_enter Ybaf.func50, Ybaf.ntmps50
  go_wp2_with fail
  refine Calls.mono (at_at 45 true hS (by omega) (by rw [t0]; rfl)) ?_
  rintro e w1 ⟨rfl, hA1⟩
  have c1 := hA1.sc.c1
  have f1 := hA1.sc.f1
  go_wp2_with fail
  have hA1 : At T d C k w (w1.setCell ⟨k, 1, none⟩ (.int .i64 ((o : Int) + 1))) (o + 1) := hA1.mv _ ((o : Int) + 1) (by omega) ⟨rfl, rfl, rfl, rfl⟩
  clear c1 f1
  refine Calls.mono (at_at 48 false hA1.sc (by omega) (by rw [t1]; rfl)) ?_
  rintro e w2 ⟨rfl, hA2⟩
  have hA2 := hA1.trans hA2
  clear hA1
  have c0 := hA2.sc.c0
  have c1 := hA2.sc.c1
  have ct := hA2.sc.t (o + 1) (by omega)
  rw [t1] at ct
  obtain ⟨p, hp⟩ : ∃ p, p = o + 1 := ⟨_, rfl⟩
  rw [← hp] at c1 ct
  have q1 : (0 : Int) ≤ (p : Int) := by omega
  have q2 : (p : Int) < (T.length : Int) := by omega
  have HP : Hid (p = o + 1) := hp
  clear hp
  go_wp2_with fail
  go_region_held3 (fun W => W.cell? ⟨k, 0, none⟩ = some (.slice (some ⟨d, 0, none⟩) T.length C) ∧ W.cell? ⟨k, 1, none⟩ = some (.int .i64 (p : Int)) ∧ W.cell? ⟨d, p, none⟩ = some (.int .u8 49)) (go_keep) (first | (go_at_call 49; refine (hd _ rfl).mono ?_; rintro e1 w1' ⟨rfl, rfl⟩))
  go_wp2_with fail
  have hA3 : At T d C k w w2.drew (o + 1) := hA2.same (by exact ⟨rfl, rfl, rfl, rfl⟩)
  refine Calls.mono (digits_to (o + 2) true hA3.sc (by omega) (by omega) (fun i h1 h2 => by obtain rfl : i = o + 1 := (by omega); rw [t1]; rfl) (by rw [t2]; rfl) (by simp)) ?_
  rintro e w4 ⟨rfl, hA4⟩
  have hA4 := hA3.trans hA4
  clear c0 c1 ct hA2 hA3
  go_wp2_with fail
  refine Calls.mono (at_at 46 true hA4.sc (by omega) (by rw [t2]; rfl)) ?_
  rintro e w5 ⟨rfl, hA5⟩
  have hA5 := hA4.trans hA5
  clear hA4
  have c1 := hA5.sc.c1
  have f1 := hA5.sc.f1
  go_wp2_with fail
  have hA6 : At T d C k w (w5.setCell ⟨k, 1, none⟩ (.int .i64 (((o + 2 : Nat) : Int) + 1))) (o + 3) := hA5.mv _ _ (by omega) ⟨rfl, rfl, rfl, rfl⟩
  clear c1 f1 hA5
  refine Calls.mono (digits_to (o + 4) true hA6.sc (by omega) (by omega) (fun i h1 h2 => by obtain rfl : i = o + 3 := (by omega); rw [t3]; rfl) (by rw [t4]; rfl) (by simp)) ?_
  rintro e w7 ⟨rfl, hA7⟩
  have hA7 := hA6.trans hA7
  clear hA6
  go_wp2_with fail
  refine Calls.mono (at_at 101 true hA7.sc (by omega) (by rw [t4]; rfl)) ?_
  rintro e w8 ⟨rfl, hA8⟩
  have hA8 := hA7.trans hA8
  clear hA7
  have c1 := hA8.sc.c1
  have f1 := hA8.sc.f1
  go_wp2_with fail
  have hA9 : At T d C k w (w8.setCell ⟨k, 1, none⟩ (.int .i64 (((o + 4 : Nat) : Int) + 1))) (o + 5) := hA8.mv _ _ (by omega) ⟨rfl, rfl, rfl, rfl⟩
  clear c1 f1 hA8
  refine Calls.mono (at_at 43 true hA9.sc (by omega) (by rw [t5]; rfl)) ?_
  rintro e w10 ⟨rfl, hA10⟩
  have hA10 := hA9.trans hA10
  clear hA9
  have c1 := hA10.sc.c1
  have f1 := hA10.sc.f1
  go_wp2_with fail
  have hA11 : At T d C k w (w10.setCell ⟨k, 1, none⟩ (.int .i64 (((o + 5 : Nat) : Int) + 1))) (o + 6) := hA10.mv _ _ (by omega) ⟨rfl, rfl, rfl, rfl⟩
  clear c1 f1 hA10
  refine Calls.mono (digits_to (o + 7) true hA11.sc (by omega) (by omega) (fun i h1 h2 => by obtain rfl : i = o + 6 := (by omega); rw [t6]; rfl) y1 (by simp)) ?_
  rintro e w12 ⟨rfl, hA12⟩
  have hA12 := hA11.trans hA12
  clear hA11
  go_wp2_with fail
  go_ret
  exact ⟨rfl, hA12⟩
end Go.Proofs.YbulkdfkFmt
