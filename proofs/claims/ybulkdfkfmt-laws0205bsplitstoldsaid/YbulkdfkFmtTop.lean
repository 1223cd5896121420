import Derived.Test.YbulkdfkFmtElem
import Derived.Deep.AppendLies
import Derived.Laws.AppendOwn
namespace Go.Proofs.YbulkdfkFmt
open Go.RowKit
set_option linter.unusedVariables false

theorem info38 : (Ybaf.prog.info? 38).map (fun i => (i.zero, i.size, i.bytes)) = some (some (.slice none 0 0), 1, 24) := by kernel_rfl

/-- The list of the elements that were read so far: its variable in block q, its row (if any) from block B on. -/
structure Els (q B : Nat) (w : World) (n : Nat) (xs : List Value) : Prop where
  ex : ∃ sv, w.heap[q]? = some (.cells #[sv] 34 (0, 0)) ∧ w.ownsRow B 38 1 sv n xs
  hq : q < B
  hB : B ≤ w.heap.size

theorem owns_keep {w w' : World} {B e sz : Nat} {v : Value} {n : Nat} {xs : List Value} (h : w.ownsRow B e sz v n xs) (hk : ∀ g, B ≤ g → g < w.heap.size → w'.heap[g]? = w.heap[g]?) : w'.ownsRow B e sz v n xs := by
  refine ⟨h.1, ?_⟩
  rcases h.2 with h0 | ⟨g, cap, cur, hv, hb, hg, h1, h2, h3, h4⟩
  · exact .inl h0
  · exact .inr ⟨g, cap, cur, hv, hb, by rw [hk g hb (block_lt hg)]; exact hg, h1, h2, h3, h4⟩
theorem owns_row_ge {w : World} {B e sz : Nat} {v : Value} {n : Nat} {xs : List Value} (h : w.ownsRow B e sz v n xs) (i : Nat) (hi : i < B) : some i ≠ v.ownBlock := by
  rcases h.2 with ⟨rfl, _⟩ | ⟨g, cap, cur, rfl, hb, _⟩
  · simp [Value.ownBlock]
  · simp [Value.ownBlock]; omega

set_option maxRecDepth 100000 in
theorem cb_step {q B n : Nat} {w : World} {xs : List Value} (h : Els q B w n xs) (hn : n ≤ 100000) (a : Option Addr) (l c : Nat) :
    Calls Ybaf.prog 20 #[.slice a l c, .pointer (some ⟨q, 0, none⟩)] w fun x w' => x = .returned (.tuple #[]) ∧ Els q B w' (n + 1) (xs ++ [.slice a l c]) ∧ w'.os = w.os ∧ w'.tape = w.tape ∧ w'.output = w.output ∧ w.heap.size ≤ w'.heap.size ∧ ∀ i, i < B → i ≠ q → w'.heap[i]? = w.heap[i]? := by
  obtain ⟨i0, hi, hz0, hz1, hz2⟩ := info_parts info38
  obtain ⟨sv, hb, hown⟩ := h.ex
  have hq := h.hq
  have hB := h.hB
  have x0 : w.cell? ⟨q, 0, none⟩ = some sv := cell_of_block hb 0
  have y0 : w.frozen? ⟨q, 0, none⟩ = false := frozen_of_block hb 0
  have HB : Hid (w.heap[q]? = some (.cells #[sv] 34 (0, 0))) := hb
  have HO : Hid (w.ownsRow B 38 1 sv n xs) := hown
  clear hb hown h
  go_enter Ybaf.func20, Ybaf.ntmps20
  go_wp2_with (at_builtin; refine wpList_append_lies _ rfl _ _ 34 rfl B 38 i0 (.slice none 0 0) 1 24 Ybaf.underlying34 hi hz0 hz1 hz2 rfl (by decide) _ _ _ rfl (HO.out.alloc _) (Addr.mk w.heap.size 0 none) 1 1 [.slice a l c] rfl rfl ?c1 ?c2 (by decide) ?c3 ?c4 ?c5 _ rfl ?_)
  case c1 =>
    intro j u hj
    match j, hj with
    | 0, hj => simp at hj; subst hj; simp [Addr.add]
  case c2 => intro u hu; simp at hu; subst hu; rfl
  case c3 => unfold maxLen; omega
  case c4 => omega
  case c5 => simp; omega
  intro g cap w1 hown1 hgr hat hlt
  have e1 : ∀ i, i < B → w1.heap[i]? = w.heap[i]? := fun i hi => by
    rw [hgr.block i (by simp; omega) (owns_row_ge HO.out i hi), Below.heap_alloc _ _ _ (by omega)]
  have hb1 : w1.heap[q]? = some (.cells #[sv] 34 (0, 0)) := by rw [e1 q hq]; exact HB.out
  have x1 : w1.cell? ⟨q, 0, none⟩ = some sv := cell_of_block hb1 0
  have y1 : w1.frozen? ⟨q, 0, none⟩ = false := frozen_of_block hb1 0
  have hsz : w.heap.size + 1 ≤ w1.heap.size := by have := hgr.size; simpa using this
  have HG : Hid _ := hgr
  have HN : Hid (w1.ownsRow B 38 1 (.slice (some ⟨g, 0, none⟩) (n + 1) cap) (n + 1) (xs ++ [.slice a l c])) := hown1
  have HE : Hid _ := e1
  clear hgr hown1 e1 x0 y0 hat
  go_wp2_with fail
  go_end0
  refine ⟨rfl, ⟨⟨.slice (some ⟨g, 0, none⟩) (n + 1) cap, ?_, ?_⟩, hq, by simp; omega⟩, ?_, ?_, ?_, by simp; omega, ?_⟩
  · rw [heap_setCell_same _ _ _ _ _ _ hb1]; rfl
  · exact owns_keep HN.out fun g' hg _ => Below.heap_setCell _ _ _ _ (by show g' ≠ q; omega)
  · exact HG.out.os
  · exact HG.out.tape
  · exact HG.out.output
  · intro i hi hne
    rw [Below.heap_setCell _ _ _ _ (by exact hne)]; exact HE.out i hi

theorem Els.kp {k q B n : Nat} {w w' : World} {xs : List Value} (h : Els q B w n xs) (g : Kp k w w') (hk : k < B) (hqk : q ≠ k) : Els q B w' n xs := by
  obtain ⟨sv, h1, h2⟩ := h.ex
  exact ⟨⟨sv, by rw [g.block q (block_lt h1) hqk]; exact h1, owns_keep h2 fun i hi hl => g.block i hl (by omega)⟩, h.hq, Nat.le_trans h.hB g.size⟩

/-- The top array behind j elements: the elements' list, all else below B as it was but for the scanner. -/
structure Tp (k q B : Nat) (wB : World) (vals : Nat → List Value) (j : Nat) (W : World) : Prop where
  els : Els q B W j (vals j)
  os : W.os = wB.os
  tape : W.tape = wB.tape
  output : W.output = wB.output
  old : ∀ i, i < B → i ≠ q → i ≠ k → W.heap[i]? = wB.heap[i]?

theorem Tp.kp {k q B j : Nat} {wB W W' : World} {vals : Nat → List Value} (h : Tp k q B wB vals j W) (g : Kp k W W') (hk : k < B) (hqk : q ≠ k) : Tp k q B wB vals j W' :=
  ⟨h.els.kp g hk hqk, g.os.trans h.os, g.tape.trans h.tape, g.output.trans h.output, fun i hi h1 h2 => (g.block i (Nat.lt_of_lt_of_le hi h.els.hB) h2).trans (h.old i hi h1 h2)⟩

theorem neq_fn75 (w : World) (f : Fn) (x y : Array Value) : (binOp .neq 75 (.func f x y) .nilFunc).run Ybaf.prog w = .ok (.bool true) w := by kernel_rfl

set_option maxRecDepth 100000 in
/-- An element of the top array. -/
theorem item_top {T : List Int} {d C k p q B : Nat} {wB : World} {vals : Nat → List Value} (hb : Boxes k p 75 1 (.func (Fn.func 20) #[] #[.pointer (some ⟨q, 0, none⟩)]) wB) (hp : p + 1 + 1 < B) (hk : k < B) (hd : d < B) (hqk : q ≠ k) (hqd : q ≠ d) (hqp : q < p)
    (j a s l : Nat) (hj : j ≤ 100000) (hs : vals (j + 1) = vals j ++ [.slice (some ⟨d, s, none⟩) l (C - s)]) (hv : ∀ W, Sc T d C k W a → Val T d C k 1 W s (s + l)) :
    Item T d C k (Tp k q B wB vals) 29 (.pointer (some ⟨p, 0, none⟩)) (.pointer (some ⟨p + 1, 0, none⟩)) (.pointer (some ⟨p + 1 + 1, 0, none⟩)) j a (s + l) := by
  intro W hS hK
  have hkp := hb.lt
  have x0 : W.cell? ⟨p, 0, none⟩ = some (.pointer (some ⟨k, 0, none⟩)) := cell_of_block (by rw [hK.old p (by omega) (by omega) (by omega)]; exact hb.b0) 0
  have x1 : W.cell? ⟨p + 1, 0, none⟩ = some (.int .i64 1) := cell_of_block (by rw [hK.old (p + 1) (by omega) (by omega) (by omega)]; exact hb.b1) 0
  have y : ∀ W', Tp k q B wB vals j W' → W'.cell? ⟨p + 1 + 1, 0, none⟩ = some (.func (Fn.func 20) #[] #[.pointer (some ⟨q, 0, none⟩)]) := fun W' h => cell_of_block (by rw [h.old (p + 1 + 1) (by omega) (by omega) (by omega)]; exact hb.b2) 0
  have HY : Hid _ := y
  clear y
  have hnf := neq_fn75
  go_enter Ybaf.func29, Ybaf.ntmps29
  go_wp2_with fail
  refine Calls.mono (hv _ hS) ?_
  rintro x w1 ⟨rfl, hA⟩
  have hT1 : Tp k q B wB vals j w1 := hK.kp hA.kp hk hqk
  have x2 := HY.out _ hT1
  have HA : Hid _ := hA
  clear hA
  go_wp2_with fail
  refine Calls.mono (cb_step hT1.els hj _ _ _) ?_
  rintro x w2 ⟨rfl, hE, h1, h2, h3, h4, h5⟩
  clear x0 x1 x2
  go_wp2_with fail
  go_ret
  have hS1 := HA.out.sc
  refine ⟨rfl, ⟨?_, ?_, hS1.ne, ?_, hS1.hc, hS1.hl⟩, ?_, ?_, ?_, ?_, ?_⟩
  · rw [h5 k hk hqk.symm]; exact hS1.b
  · intro i hi
    rw [World.cell?_of_block (h5 d hd hqd.symm)]; exact hS1.t i hi
  · have := hS1.dl; omega
  · rw [hs]
    exact hE
  · exact h1.trans hT1.os
  · exact h2.trans hT1.tape
  · exact h3.trans hT1.output
  · intro i hi n1 n2
    rw [h5 i hi n1]; exact hT1.old i hi n1 n2

set_option maxRecDepth 100000 in
theorem end_yes {T : List Int} {d C k : Nat} {w : World} {o : Nat} (hS : Sc T d C k w o) (ho : o ≤ T.length) (hsp : ∀ i, o ≤ i → i < T.length → isSp (T.getD i 0) = true) :
    Calls Ybaf.prog 21 #[.pointer (some ⟨k, 0, none⟩)] w fun x w' => x = .returned (.bool true) ∧ At T d C k w w' T.length := by
  go_enter Ybaf.func21, Ybaf.ntmps21
  go_wp2_with fail
  refine Calls.mono (space_to T.length hS ho (Nat.le_refl _) hsp (fun h => by omega)) ?_
  rintro x w1 ⟨rfl, hA⟩
  have c0 := hA.sc.c0
  have c1 := hA.sc.c1
  have HA : Hid _ := hA
  clear hA
  go_wp2_with fail
  go_quiet (fail)
  go_wp2_with fail
  go_ret
  exact ⟨rfl, HA.out.same (by exact ⟨rfl, rfl, rfl, rfl⟩)⟩

set_option maxRecDepth 100000 in
theorem end_no {T : List Int} {d C k : Nat} {w : World} {o : Nat} (e : Nat) (hS : Sc T d C k w o) (hsp : Sp T o e) :
    Calls Ybaf.prog 21 #[.pointer (some ⟨k, 0, none⟩)] w fun x w' => x = .returned (.bool false) ∧ At T d C k w w' e := by
  have hlt := hsp.lt
  go_enter Ybaf.func21, Ybaf.ntmps21
  go_wp2_with fail
  refine Calls.mono (space_to e hS hsp.le (by omega) hsp.sp (fun _ => hsp.no)) ?_
  rintro x w1 ⟨rfl, hA⟩
  have c0 := hA.sc.c0
  have c1 := hA.sc.c1
  have HA : Hid _ := hA
  have hne : ¬ (e : Int) = (T.length : Int) := by omega
  have hne2 : ((e : Int) == (T.length : Int)) = false := by simpa using hne
  clear hA
  go_wp2_with fail
  go_quiet (fail)
  go_wp2_with fail
  go_ret
  exact ⟨by first | rfl | (simp; omega), HA.out.same (by exact ⟨rfl, rfl, rfl, rfl⟩)⟩

/-- Behind the top array: the list, and since w no block has turned but the scanner's and the list's. -/
structure Lst (k q B : Nat) (w W : World) (n : Nat) (xs : List Value) : Prop where
  els : Els q B W n xs
  os : W.os = w.os
  tape : W.tape = w.tape
  output : W.output = w.output
  size : w.heap.size ≤ W.heap.size
  old : ∀ i, i < w.heap.size → i ≠ q → i ≠ k → W.heap[i]? = w.heap[i]?

theorem Lst.kp {k q B n : Nat} {w W W' : World} {xs : List Value} (h : Lst k q B w W n xs) (g : Kp k W W') (hk : k < B) (hqk : q ≠ k) : Lst k q B w W' n xs :=
  ⟨h.els.kp g hk hqk, g.os.trans h.os, g.tape.trans h.tape, g.output.trans h.output, Nat.le_trans h.size g.size, fun i hi h1 h2 => (g.block i (Nat.lt_of_lt_of_le hi h.size) h2).trans (h.old i hi h1 h2)⟩

/-- A callback that appends to the list in block q. -/
abbrev cbv (q : Nat) : Value := .func (Fn.func 20) #[] #[.pointer (some ⟨q, 0, none⟩)]

set_option maxRecDepth 100000 in
theorem array_top {T : List Int} {d C k q : Nat} {w : World} {o s f n : Nat} (vals : Nat → List Value) (hS : Sc T d C k w o) (hsp : Sp T (o + 1) s) (hne : T.getD s 0 ≠ 93)
    (hq : w.heap[q]? = some (.cells #[.slice none 0 0] 34 (0, 0))) (hqk : q ≠ k) (h0 : vals 0 = [])
    (hI : ∀ wB p, Boxes k p 75 1 (cbv q) wB → p = w.heap.size → Its (Item T d C k (Tp k q (w.heap.size + 3) wB vals) 29 (.pointer (some ⟨p, 0, none⟩)) (.pointer (some ⟨p + 1, 0, none⟩)) (.pointer (some ⟨p + 1 + 1, 0, none⟩))) T 93 n 0 s f) :
    Calls Ybaf.prog 19 #[.pointer (some ⟨k, 0, none⟩), .int .i64 1, cbv q] w fun x w' => x = .returned .nilIface ∧ Sc T d C k w' f ∧ Lst k q (w.heap.size + 3) w w' (n + 1) (vals (n + 1)) := by
  have hB := Boxes.made k 75 1 (cbv q) w hS.klt
  have x0 := cell_of_block hB.b0 0
  have x1 := cell_of_block hB.b1 0
  have HS := hS.made 75 1 (cbv q)
  have HK := Kp.made k 75 1 (cbv q) w
  have HI : Hid _ := hI _ _ hB rfl
  have hql := block_lt hq
  have hkl := hS.klt
  have hsz : (((w.alloc (.cells #[.pointer (some ⟨k, 0, none⟩)] 86)).alloc (.cells #[.int .i64 1] 3)).alloc (.cells #[cbv q] 75)).heap.size = w.heap.size + 3 := by simp
  have HT : Tp k q (w.heap.size + 3) (((w.alloc (.cells #[.pointer (some ⟨k, 0, none⟩)] 86)).alloc (.cells #[.int .i64 1] 3)).alloc (.cells #[cbv q] 75)) vals 0 (((w.alloc (.cells #[.pointer (some ⟨k, 0, none⟩)] 86)).alloc (.cells #[.int .i64 1] 3)).alloc (.cells #[cbv q] 75)) :=
    ⟨⟨⟨.slice none 0 0, by rw [HK.block q hql hqk]; exact hq, by rw [h0]; exact ⟨rfl, .inl ⟨rfl, rfl⟩⟩⟩, by omega, by omega⟩, rfl, rfl, rfl, fun _ _ _ _ => rfl⟩
  have HTT : Hid _ := HT
  clear hB hI HT
  go_enter Ybaf.func19, Ybaf.ntmps19
  go_wp2_with fail
  refine Calls.mono (items_some (Tp k q (w.heap.size + 3) (((w.alloc (.cells #[.pointer (some ⟨k, 0, none⟩)] 86)).alloc (.cells #[.int .i64 1] 3)).alloc (.cells #[cbv q] 75)) vals) (fun _ _ _ h1 h2 => h1.kp h2 (by omega) hqk) 29 (by decide) _ _ _ 93 (by decide) _ n f 1 (by omega) HS hsp hne HTT.out HI.out) ?_
  rintro x w1 ⟨rfl, hS1, hT1⟩
  clear x0 x1
  go_wp2_with fail
  go_ret
  exact ⟨rfl, hS1, hT1.els, hT1.os, hT1.tape, hT1.output, by have := hT1.els.hB; omega, fun i hi n1 n2 => (hT1.old i (by omega) n1 n2).trans (HK.block i hi n2)⟩

/-- The text as List reads it: n elements between brackets; f: the octet behind the closing one. -/
def Laid (T : List Int) (C d : Nat) (vals : Nat → List Value) (n f : Nat) : Prop :=
  T.getD 0 0 = 91 ∧ ∃ s, Sp T 1 s ∧ ((n = 0 ∧ T.getD s 0 = 93 ∧ f = s + 1) ∨ (0 < n ∧ T.getD s 0 ≠ 93 ∧ Its (fun j a b => ∃ s l, b = s + l ∧ j ≤ 100000 ∧ vals (j + 1) = vals j ++ [.slice (some ⟨d, s, none⟩) l (C - s)] ∧ ∀ k W, Sc T d C k W a → Val T d C k 1 W s (s + l)) T 93 (n - 1) 0 s f))

set_option maxRecDepth 100000 in
/-- The array of 'List', of any number of elements. -/
theorem array_list {T : List Int} {d C k q : Nat} {w : World} {n f : Nat} (vals : Nat → List Value) (hS : Sc T d C k w 0) (hq : w.heap[q]? = some (.cells #[.slice none 0 0] 34 (0, 0))) (hqk : q ≠ k) (hqd : q ≠ d) (h0 : vals 0 = []) (hL : Laid T C d vals n f) :
    Calls Ybaf.prog 19 #[.pointer (some ⟨k, 0, none⟩), .int .i64 1, cbv q] w fun x w' => x = .returned .nilIface ∧ Sc T d C k w' f ∧ Lst k q (w.heap.size) w w' n (vals n) := by
  obtain ⟨t0, s, hsp, ⟨rfl, h1, rfl⟩ | ⟨hn, h1, hI⟩⟩ := hL
  · refine (array_cb_none 1 q (by omega) hS hsp h1).mono fun x w' ⟨hx, hA⟩ => ⟨hx, hA.sc, ?_⟩
    refine ⟨⟨⟨.slice none 0 0, ?_, by rw [h0]; exact ⟨rfl, .inl ⟨rfl, rfl⟩⟩⟩, block_lt hq, hA.kp.size⟩, hA.kp.os, hA.kp.tape, hA.kp.output, hA.kp.size, fun i hi _ n2 => hA.kp.block i hi n2⟩
    rw [hA.kp.block q (block_lt hq) hqk]; exact hq
  · have hk := hS.klt
    have hd := hS.dl
    have hql := block_lt hq
    have e1 : n - 1 + 1 = n := by omega
    have := array_top (f := f) (n := n - 1) vals hS hsp h1 hq hqk h0 (fun wB p hb hp => by
      refine hI.imp fun j a b hIt => ?_
      obtain ⟨s, l, rfl, hj, hvs, hv⟩ := hIt
      exact item_top hb (by omega) (by omega) (by omega) hqk hqd (by omega) j a s l hj hvs (hv k))
    rw [e1] at this
    refine this.mono fun x w' ⟨hx, hS', hLs⟩ => ⟨hx, hS', ?_⟩
    have hels := hLs.els
    obtain ⟨sv, g1, g2⟩ := hels.ex
    exact ⟨⟨⟨sv, g1, g2.1, by
      rcases g2.2 with g3 | ⟨g, cap, cur, a1, a2, a3⟩
      · exact .inl g3
      · exact .inr ⟨g, cap, cur, a1, by omega, a3⟩⟩, by omega, by have := hels.hB; omega⟩, hLs.os, hLs.tape, hLs.output, hLs.size, hLs.old⟩
end Go.Proofs.YbulkdfkFmt
