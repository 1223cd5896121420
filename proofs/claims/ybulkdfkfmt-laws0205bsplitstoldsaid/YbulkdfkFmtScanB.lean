import Derived.Test.YbulkdfkFmtScan
namespace Go.Proofs.YbulkdfkFmt
open Go.RowKit
open Go.WideShapes (add_plain)
set_option linter.unusedVariables false

theorem At.mv {T : List Int} {d C k : Nat} {w0 w w' : World} {o : Nat} (h : At T d C k w0 w o) (o' : Nat) (z : Int) (hz : z = o') (e : Same (w.setCell ⟨k, 1, none⟩ (.int .i64 z)) w') : At T d C k w0 w' o' :=
  (h.move (w' := w) ⟨rfl, rfl, rfl, rfl⟩ o' hz).same e

def isDig (c : Int) : Bool := decide (48 ≤ c) && decide (c ≤ 57)

set_option maxRecDepth 100000 in
theorem digits_to {T : List Int} {d C k : Nat} {w : World} {o : Nat} (e : Nat) (b : Bool) (hS : Sc T d C k w o) (hoe : o ≤ e) (heL : e < T.length)
    (hsp : ∀ i, o ≤ i → i < e → isDig (T.getD i 0) = true) (hend : isDig (T.getD e 0) = false) (hb : decide (o < e) = b) :
    Calls Ybaf.prog 63 #[.pointer (some ⟨k, 0, none⟩)] w fun x w' => x = .returned (.bool b) ∧ At T d C k w w' e := by
  have c1 := hS.c1
  go_enter Ybaf.func63, Ybaf.ntmps63
  go_wp2_with fail
  go_loopg [] (e - o) (fun gh wr => ∃ i : Nat, o ≤ i ∧ i ≤ e ∧ e - i ≤ gh ∧ At T d C k w wr i)
  case atStart => exact ⟨o, by omega, hoe, by omega, At.refl hS⟩
  case round =>
    obtain ⟨i, h1, h2, h3, hA⟩ := hrel
    have hl := hA.sc.hl
    have c0 := hA.sc.c0
    have c1 := hA.sc.c1
    have f1 := hA.sc.f1
    have g2 : (0 : Int) ≤ (i : Int) := by omega
    have HA : Hid (At T d C k w wr i) := hA
    have hi : i < T.length := by omega
    have ct := hA.sc.t i hi
    have g1 : (i : Int) < (T.length : Int) := by omega
    have hx1 : i < e → isDig (T.getD i 0) = true := hsp i h1
    have hx2 : ¬ i < e → isDig (T.getD i 0) = false := fun h => by
      obtain rfl : i = e := by omega
      exact hend
    clear hA hS hsp hend
    generalize T.getD i 0 = x at *
    by_cases hie : i < e
    · have hx := isDigit_of x true
      have hy := hx1 hie
      clear hx1 hx2
      go_wp2_with fail
      go_region_held3 (fun W => W.cell? ⟨k, 0, none⟩ = some (.slice (some ⟨d, 0, none⟩) T.length C) ∧ W.cell? ⟨k, 1, none⟩ = some (.int .i64 i) ∧ W.cell? ⟨d, i, none⟩ = some (.int .u8 x)) (go_keep) (first | (go_at_call 49; refine (hx _ hy).mono ?_; rintro e1 w1 ⟨rfl, rfl⟩))
      go_wp2_with fail
      go_roundg (e - (i + 1))
      case measure => omega
      case rel => exact ⟨i + 1, by omega, by omega, by omega, HA.out.mv _ ((i : Int) + 1) (by omega) ⟨rfl, rfl, rfl, rfl⟩⟩
    · have hx := isDigit_of x false
      have hy := hx2 hie
      clear hx1 hx2
      obtain rfl : i = e := by omega
      have hoi : o < i ∨ o = i := by omega
      go_wp2_with fail
      go_region_held3 (fun W => W.cell? ⟨k, 0, none⟩ = some (.slice (some ⟨d, 0, none⟩) T.length C) ∧ W.cell? ⟨k, 1, none⟩ = some (.int .i64 i) ∧ W.cell? ⟨d, i, none⟩ = some (.int .u8 x)) (go_keep) (first | (go_at_call 49; refine (hx _ hy).mono ?_; rintro e1 w1 ⟨rfl, rfl⟩))
      rcases hoi with hoi | hoi
      · have g5 : (i : Int) > (o : Int) := by omega
        have : b = true := by rw [← hb]; simpa using hoi
        subst this
        go_wp2_with fail
        go_ret
        exact ⟨rfl, HA.out.same (by exact ⟨rfl, rfl, rfl, rfl⟩)⟩
      · have g5 : ¬ (i : Int) > (o : Int) := by omega
        have : b = false := by rw [← hb]; simp; omega
        subst this
        go_wp2_with fail
        go_ret
        exact ⟨rfl, HA.out.same (by exact ⟨rfl, rfl, rfl, rfl⟩)⟩

set_option maxRecDepth 100000 in
/-- A backslash and a quote. -/
theorem escape_quote {T : List Int} {d C k : Nat} {w : World} {o : Nat} (hS : Sc T d C k w o) (ho : o + 1 < T.length) (hq : T.getD (o + 1) 0 = 34) :
    Calls Ybaf.prog 62 #[.pointer (some ⟨k, 0, none⟩)] w fun x w' => x = .returned .nilIface ∧ At T d C k w w' (o + 2) := by
  have hl := hS.hl
  have c0 := hS.c0
  have c1 := hS.c1
  have f1 := hS.f1
  have ct := hS.t (o + 1) ho
  rw [hq] at ct
  have HA : Hid (At T d C k w w o) := At.refl hS
  have g1 : (o : Int) + 1 < (T.length : Int) := by omega
  have g2 : (0 : Int) ≤ (o : Int) := by omega
  clear hS hq
  go_enter Ybaf.func62, Ybaf.ntmps62
  go_wp2_with fail
  go_quiet (fail)
  go_wp2_with fail
  go_quiet (fail)
  go_wp2_with fail
  go_ret
  exact ⟨rfl, HA.out.mv _ ((o : Int) + 2) (by omega) ⟨rfl, rfl, rfl, rfl⟩⟩

/-- A string's inside: no quote, no control character; each backslash has a quote behind it. -/
def body : List Int → Bool
  | [] => true
  | 92 :: 34 :: r => body r
  | c :: r => (c != 34 && c != 92 && decide (32 ≤ c)) && body r

/-- Where a string's inside begins: an end, an escape, or a plain octet. -/
theorem body_cases (l : List Int) (h : body l = true) : l = [] ∨ (∃ r, l = 92 :: 34 :: r ∧ body r = true) ∨ ∃ c r, l = c :: r ∧ c ≠ 34 ∧ c ≠ 92 ∧ 32 ≤ c ∧ body r = true := by
  unfold body at h
  split at h
  · exact .inl rfl
  · exact .inr (.inl ⟨_, rfl, h⟩)
  · refine .inr (.inr ⟨_, _, rfl, ?_⟩)
    simp only [Bool.and_eq_true, bne_iff_ne, decide_eq_true_eq] at h
    exact ⟨h.1.1.1, h.1.1.2, h.1.2, h.2⟩

theorem Seg.head {T : List Int} {o : Nat} {c : Int} {l : List Int} (h : Seg T o (c :: l)) : T.getD o 0 = c := by simpa using h.2 0 (by simp)
theorem Seg.lt {T : List Int} {o : Nat} {c : Int} {l : List Int} (h : Seg T o (c :: l)) : o < T.length := by have := h.1; simp at this; omega
theorem Seg.tail {T : List Int} {o : Nat} {c : Int} {l : List Int} (h : Seg T o (c :: l)) : Seg T (o + 1) l := by
  refine ⟨by have := h.1; simp at this; omega, fun j hj => ?_⟩
  have := h.2 (j + 1) (by simpa using hj)
  rw [show o + 1 + j = o + (j + 1) by omega, this]; simp

set_option maxRecDepth 100000 in
theorem str_to {T : List Int} {d C k : Nat} {w : World} {o : Nat} (l : List Int) (hS : Sc T d C k w o) (hseg : Seg T o (34 :: (l ++ [34]))) (hb : body l = true) :
    Calls Ybaf.prog 47 #[.pointer (some ⟨k, 0, none⟩)] w fun x w' => x = .returned (.tuple #[.slice (some ⟨d, o, none⟩) (l.length + 2) (C - o), .nilIface]) ∧ At T d C k w w' (o + l.length + 2) := by
  have hl := hS.hl
  have hc := hS.hc
  have c1 := hS.c1
  have f1 := hS.f1
  have hbig := hseg.1
  simp at hbig
  have hA0 : At T d C k w (w.setCell ⟨k, 1, none⟩ (.int .i64 ((o : Int) + 1))) (o + 1) := (At.refl hS).mv _ ((o : Int) + 1) (by omega) ⟨rfl, rfl, rfl, rfl⟩
  have HA0 : Hid _ := hA0
  clear hA0
  go_enter Ybaf.func47, Ybaf.ntmps47
  go_wp2_with fail
  go_loopg [] l.length (fun gh wr => ∃ (i : Nat) (r : List Int), r.length ≤ gh ∧ i + r.length = o + 1 + l.length ∧ o + 1 ≤ i ∧ Seg T i (r ++ [34]) ∧ body r = true ∧ At T d C k w wr i)
  case atStart => exact ⟨o + 1, l, by omega, by omega, by omega, hseg.tail, hb, HA0.out⟩
  case round =>
    obtain ⟨i, r, h1, h2, h3, hsg, hbr, hA⟩ := hrel
    have c0 := hA.sc.c0
    have c1 := hA.sc.c1
    have f1 := hA.sc.f1
    have g2 : (0 : Int) ≤ (i : Int) := by omega
    have HA : Hid (At T d C k w wr i) := hA
    have hi : i < T.length := by have := hsg.1; simp at this; omega
    have ct := hA.sc.t i hi
    have g1 : (i : Int) < (T.length : Int) := by omega
    clear hS hseg HA0
    rcases body_cases r hbr with rfl | ⟨r', rfl, hb'⟩ | ⟨c, r', rfl, n1, n2, n3, hb'⟩
    · have hx : T.getD i 0 = 34 := hsg.head
      rw [hx] at ct
      clear hA hx hsg
      go_wp2_with fail
      go_quiet (fail)
      go_wp2_with fail
      go_quiet (fail)
      go_wp2_with fail
      rename_i K1 a1
      generalize hW1 : ((wr.drewN _).setCell { block := k, off := 1 } (Value.int IntKind.i64 ((i : Int) + 1))) = W1
      have hA1 : At T d C k w W1 (i + 1) := HA.out.mv _ ((i : Int) + 1) (by omega) (by rw [← hW1]; exact ⟨rfl, rfl, rfl, rfl⟩)
      have HA1 : Hid (At T d C k w W1 (i + 1)) := hA1
      have d0 := hA1.sc.c0
      have d1 := hA1.sc.c1
      have m1 : (o : Int) ≤ ((i + 1 : Nat) : Int) := by omega
      have m2 : ((i + 1 : Nat) : Int) ≤ (T.length : Int) := by omega
      have m3 : ((i + 1 : Nat) : Int) ≤ (C : Int) := by omega
      clear hA1 hW1 c0 c1 f1 ct
      go_quiet (fail)
      go_wp2_with fail
      go_ret2
      have e1 : i + 1 - o = l.length + 2 := by simp at h2; omega
      have e2 : o + l.length + 2 = i + 1 := by simp at h2; omega
      rw [e2, ← e1]
      exact ⟨rfl, HA1.out.same (by exact ⟨rfl, rfl, rfl, rfl⟩)⟩
    · have hx : T.getD i 0 = 92 := hsg.head
      have hx2 : T.getD (i + 1) 0 = 34 := hsg.tail.head
      have hx3 : i + 1 < T.length := hsg.tail.lt
      rw [hx] at ct
      have HG : Hid (Seg T (i + 2) (r' ++ [34])) := hsg.tail.tail
      clear hx hsg
      go_wp2_with fail
      go_quiet (fail)
      go_wp2_with fail
      go_quiet (fail)
      go_wp2_with fail
      refine Calls.mono (escape_quote (T := T) (d := d) (C := C) (k := k) (o := i) (hA.sc.heap (by rfl)) hx3 hx2) ?_
      rintro e w1 ⟨rfl, hA2⟩
      have HA2 : Hid (At T d C k w w1 (i + 2)) := (hA.same (by exact ⟨rfl, rfl, rfl, rfl⟩)).trans hA2
      clear hA hA2
      go_wp2_with fail
      go_roundg r'.length
      case measure => simp at h1; omega
      case rel => exact ⟨i + 2, r', by omega, by simp at h2; omega, by omega, HG.out, hb', HA2.out⟩
    · have hx : T.getD i 0 = c := hsg.head
      rw [hx] at ct
      have HG : Hid (Seg T (i + 1) (r' ++ [34])) := hsg.tail
      have n4 : ¬ c < 32 := by omega
      clear hA hx hsg
      go_wp2_with fail
      go_quiet (fail)
      go_wp2_with fail
      go_quiet (fail)
      go_wp2_with fail
      go_roundg r'.length
      case measure => simp at h1; omega
      case rel => exact ⟨i + 1, r', by omega, by simp at h2; omega, by omega, HG.out, hb', HA.out.mv _ ((i : Int) + 1) (by omega) ⟨rfl, rfl, rfl, rfl⟩⟩
end Go.Proofs.YbulkdfkFmt
