import Derived.Test.YbulkdfkFmtHeader
import Derived.Deep.RegionHeld3
import Derived.Deep.QuietTactic
import Derived.BigQuiet
import Derived.Deep.Draws
import Derived.Deep.LoopGhost
import Derived.Deep.OwnRows
namespace Go.Proofs.YbulkdfkFmt
open Go.RowKit
open Go.WideShapes (add_plain)
set_option linter.unusedVariables false

/-- All blocks but k are as they were. -/
structure Kp (k : Nat) (w w' : World) : Prop where
  os : w'.os = w.os
  tape : w'.tape = w.tape
  output : w'.output = w.output
  size : w.heap.size ≤ w'.heap.size
  block : ∀ i, i < w.heap.size → i ≠ k → w'.heap[i]? = w.heap[i]?

theorem Kp.refl (k : Nat) (w : World) : Kp k w w := ⟨rfl, rfl, rfl, Nat.le_refl _, fun _ _ _ => rfl⟩
theorem Kp.trans {k : Nat} {a b c : World} (h : Kp k a b) (g : Kp k b c) : Kp k a c :=
  ⟨g.os.trans h.os, g.tape.trans h.tape, g.output.trans h.output, Nat.le_trans h.size g.size, fun i hi hk => (g.block i (Nat.lt_of_lt_of_le hi h.size) hk).trans (h.block i hi hk)⟩
theorem Kp.of_below {k B : Nat} {w w' : World} (h : Below B w w') (hB : w.heap.size ≤ B) : Kp k w w' := ⟨h.os, h.tape, h.output, h.size, fun i hi _ => h.block i (Nat.lt_of_lt_of_le hi hB)⟩
theorem Kp.below {k B : Nat} {w w' : World} (h : Kp k w w') (hB : B ≤ w.heap.size) (hk : B ≤ k) : Below B w w' := ⟨h.os, h.tape, h.output, h.size, fun i hi => h.block i (by omega) (by omega)⟩
theorem Kp.heap {k : Nat} {w w' w'' : World} (h : Kp k w w') (e1 : w''.os = w'.os) (e2 : w''.tape = w'.tape) (e3 : w''.output = w'.output) (e4 : w''.heap = w'.heap) : Kp k w w'' :=
  ⟨e1.trans h.os, e2.trans h.tape, e3.trans h.output, by rw [e4]; exact h.size, by rw [e4]; exact h.block⟩
theorem Kp.setCell {k : Nat} {w w' : World} (h : Kp k w w') (i : Nat) (v : Value) : Kp k w (w'.setCell ⟨k, i, none⟩ v) :=
  ⟨h.os, h.tape, h.output, by simpa using h.size, fun j hj hk => by rw [Below.heap_setCell _ _ _ _ (by exact hk)]; exact h.block j hj hk⟩
theorem Kp.alloc {k : Nat} {w w' : World} (h : Kp k w w') (o : Obj) : Kp k w (w'.alloc o) :=
  ⟨h.os, h.tape, h.output, by have := h.size; simp; omega, fun j hj hk => by have := h.size; rw [Below.heap_alloc _ _ _ (by omega)]; exact h.block j hj hk⟩
/-- The scanner in block k stands at octet o of the text T, which lies in block d. -/
structure Sc (T : List Int) (d C k : Nat) (w : World) (o : Nat) : Prop where
  b : w.heap[k]? = some (.cells #[.slice (some ⟨d, 0, none⟩) T.length C, .int .i64 o] 72 (0, 0))
  t : ∀ i, i < T.length → w.cell? ⟨d, i, none⟩ = some (.int .u8 (T.getD i 0))
  ne : d ≠ k
  dl : d < w.heap.size
  hc : T.length ≤ C
  hl : T.length ≤ 1000000

theorem Sc.klt {T : List Int} {d C k : Nat} {w : World} {o : Nat} (h : Sc T d C k w o) : k < w.heap.size := by
  rcases Nat.lt_or_ge k w.heap.size with g | g
  · exact g
  · have := h.b; rw [Array.getElem?_eq_none g] at this; cases this
theorem Sc.heap {T : List Int} {d C k : Nat} {w w' : World} {o : Nat} (h : Sc T d C k w o) (e : w'.heap = w.heap) : Sc T d C k w' o :=
  ⟨by rw [e]; exact h.b, fun i hi => by have := h.t i hi; simpa [World.cell?, e] using this, h.ne, by rw [e]; exact h.dl, h.hc, h.hl⟩
theorem Sc.move {T : List Int} {d C k : Nat} {w w' : World} {o : Nat} (h : Sc T d C k w o) (e : w'.heap = w.heap) (o' : Nat) {z : Int} (hz : z = o') : Sc T d C k (w'.setCell ⟨k, 1, none⟩ (.int .i64 z)) o' := by
  subst hz
  have h := h.heap e
  exact ⟨by rw [heap_setCell_same _ _ _ _ _ _ h.b]; rfl, fun i hi => by rw [World.cell?_of_block (Below.heap_setCell _ _ _ _ (by exact h.ne))]; exact h.t i hi, h.ne, by simpa using h.dl, h.hc, h.hl⟩
theorem Sc.below {T : List Int} {d C k : Nat} {w w' : World} {o : Nat} (h : Sc T d C k w o) (g : Below w.heap.size w w') : Sc T d C k w' o :=
  ⟨by rw [g.block _ h.klt]; exact h.b, fun i hi => by rw [World.cell?_of_block (g.block d h.dl)]; exact h.t i hi, h.ne, Nat.lt_of_lt_of_le h.dl g.size, h.hc, h.hl⟩
theorem Sc.c0 {T : List Int} {d C k : Nat} {w : World} {o : Nat} (h : Sc T d C k w o) : w.cell? ⟨k, 0, none⟩ = some (.slice (some ⟨d, 0, none⟩) T.length C) := cell_of_block h.b 0
theorem Sc.c1 {T : List Int} {d C k : Nat} {w : World} {o : Nat} (h : Sc T d C k w o) : w.cell? ⟨k, 1, none⟩ = some (.int .i64 o) := cell_of_block h.b 1
theorem Sc.f1 {T : List Int} {d C k : Nat} {w : World} {o : Nat} (h : Sc T d C k w o) : w.frozen? ⟨k, 1, none⟩ = false := frozen_of_block h.b 1

/-- The same memory, the same tape. -/
structure Same (w w' : World) : Prop where
  os : w'.os = w.os
  tape : w'.tape = w.tape
  output : w'.output = w.output
  heap : w'.heap = w.heap

/-- The scanner stands at o; since w0 no block but its own has turned. -/
structure At (T : List Int) (d C k : Nat) (w0 w : World) (o : Nat) : Prop where
  sc : Sc T d C k w o
  kp : Kp k w0 w
theorem At.refl {T : List Int} {d C k : Nat} {w : World} {o : Nat} (h : Sc T d C k w o) : At T d C k w w o := ⟨h, Kp.refl _ _⟩
theorem At.trans {T : List Int} {d C k : Nat} {w0 w w' : World} {o o' : Nat} (h : At T d C k w0 w o) (g : At T d C k w w' o') : At T d C k w0 w' o' := ⟨g.sc, h.kp.trans g.kp⟩
theorem At.same {T : List Int} {d C k : Nat} {w0 w w' : World} {o : Nat} (h : At T d C k w0 w o) (e : Same w w') : At T d C k w0 w' o := ⟨h.sc.heap e.heap, h.kp.heap e.os e.tape e.output e.heap⟩
theorem At.move {T : List Int} {d C k : Nat} {w0 w w' : World} {o : Nat} (h : At T d C k w0 w o) (e : Same w w') (o' : Nat) {z : Int} (hz : z = o') : At T d C k w0 (w'.setCell ⟨k, 1, none⟩ (.int .i64 z)) o' :=
  ⟨h.sc.move e.heap o' hz, (h.same e).kp.setCell _ _⟩

/-- The text's octets from o on are these. -/
def Seg (T : List Int) (o : Nat) (l : List Int) : Prop := o + l.length ≤ T.length ∧ ∀ j, j < l.length → T.getD (o + j) 0 = l.getD j 0

def isSp (c : Int) : Bool := c == 32 || c == 9 || c == 10 || c == 13

set_option maxRecDepth 100000 in
theorem at_at {T : List Int} {d C k : Nat} {w : World} {o : Nat} (c : Int) (b : Bool) (hS : Sc T d C k w o) (ho : o < T.length) (hb : (T.getD o 0 == c) = b) :
    Calls Ybaf.prog 18 #[.pointer (some ⟨k, 0, none⟩), .int .u8 c] w fun e w' => e = .returned (.bool b) ∧ At T d C k w w' o := by
  have c0 := hS.c0
  have c1 := hS.c1
  have ct := hS.t o ho
  have HS : Hid (Sc T d C k w o) := hS
  clear hS
  generalize T.getD o 0 = x at *
  have g1 : (o : Int) < (T.length : Int) := by omega
  have g2 : (0 : Int) ≤ (o : Int) := by omega
  go_enter Ybaf.func18, Ybaf.ntmps18
  go_wp2
  go_quiet (fail)
  go_wp2
  go_ret
  exact ⟨rfl, (At.refl HS.out).same (by exact ⟨rfl, rfl, rfl, rfl⟩)⟩

set_option maxRecDepth 100000 in
theorem space_to {T : List Int} {d C k : Nat} {w : World} {o : Nat} (e : Nat) (hS : Sc T d C k w o) (hoe : o ≤ e) (heL : e ≤ T.length)
    (hsp : ∀ i, o ≤ i → i < e → isSp (T.getD i 0) = true) (hend : e < T.length → isSp (T.getD e 0) = false) :
    Calls Ybaf.prog 31 #[.pointer (some ⟨k, 0, none⟩)] w fun x w' => x = .returned (.tuple #[]) ∧ At T d C k w w' e := by
  go_enter Ybaf.func31, Ybaf.ntmps31
  go_wp2_with fail
  go_loopg [] (e - o) (fun gh wr => ∃ i : Nat, o ≤ i ∧ i ≤ e ∧ e - i ≤ gh ∧ At T d C k w wr i)
  case atStart => exact ⟨o, by omega, hoe, by omega, At.refl hS⟩
  case round =>
    obtain ⟨i, h1, h2, h3, hA⟩ := hrel
    have hl := hA.sc.hl
    have c0 := hA.sc.c0
    have c1 := hA.sc.c1
    have f1 := hA.sc.f1
    have g2 : (0 : Int) ≤ (i : Int) := by omega
    have HA : Hid (At T d C k w wr i) := hA
    by_cases hi : i < T.length
    · have ct := hA.sc.t i hi
      have g1 : (i : Int) < (T.length : Int) := by omega
      have hx1 : i < e → isSp (T.getD i 0) = true := hsp i h1
      have hx2 : ¬ i < e → isSp (T.getD i 0) = false := fun h => by
        obtain rfl : i = e := by omega
        exact hend hi
      clear hA hS hsp hend
      generalize T.getD i 0 = x at *
      by_cases hie : i < e
      · have hx := hx1 hie
        clear hx1 hx2
        simp only [isSp, Bool.or_eq_true, beq_iff_eq] at hx
        rcases hx with ((rfl | rfl) | rfl) | rfl
        all_goals
          go_wp2_with fail
          go_quiet (fail)
          go_wp2_with fail
          go_quiet (fail)
          go_wp2_with fail
          go_roundg (e - (i + 1))
          case measure => omega
          case rel => exact ⟨i + 1, by omega, by omega, by omega, HA.out.move (by exact ⟨rfl, rfl, rfl, rfl⟩) _ (by omega)⟩
      · have hx := hx2 hie
        clear hx1 hx2
        simp only [isSp, Bool.or_eq_false_iff, beq_eq_false_iff_ne] at hx
        obtain ⟨⟨⟨n1, n2⟩, n3⟩, n4⟩ := hx
        go_wp2_with fail
        go_quiet (fail)
        go_wp2_with fail
        go_quiet (fail)
        go_wp2_with fail
        obtain rfl : i = e := by omega
        refine bodyPost_ret (results_none rfl _ _ _) rfl ?_
        exact ⟨rfl, HA.out.same (by exact ⟨rfl, rfl, rfl, rfl⟩)⟩
    · have g1 : ¬ (i : Int) < (T.length : Int) := by omega
      clear hA hS hsp hend
      go_wp2_with fail
      go_quiet (fail)
      go_wp2_with fail
      obtain rfl : i = e := by omega
      go_end0
      exact ⟨rfl, HA.out.same (by exact ⟨rfl, rfl, rfl, rfl⟩)⟩

/-- What stands ahead of each octet's look: the cells. -/
theorem isDigit_of (c : Int) (b : Bool) (w : World) (hb : (decide (48 ≤ c) && decide (c ≤ 57)) = b) :
    Calls Ybaf.prog 49 #[.int .u8 c] w fun e w' => e = .returned (.bool b) ∧ w' = w := by
  by_cases h1 : c ≥ 48
  · by_cases h2 : c ≤ 57
    · have : b = true := by rw [← hb]; simp; omega
      subst this
      go_enter Ybaf.func49, Ybaf.ntmps49
      go_wp2
      go_ret
      exact ⟨rfl, rfl⟩
    · have : b = false := by rw [← hb]; simp; omega
      subst this
      go_enter Ybaf.func49, Ybaf.ntmps49
      go_wp2
      go_ret
      exact ⟨rfl, rfl⟩
  · have : b = false := by rw [← hb]; simp; omega
    subst this
    go_enter Ybaf.func49, Ybaf.ntmps49
    go_wp2
    go_ret
    exact ⟨rfl, rfl⟩
end Go.Proofs.YbulkdfkFmt
