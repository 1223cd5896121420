import Derived.Test.YbulkdfkFmtScanD
namespace Go.Proofs.YbulkdfkFmt
open Go.RowKit
open Go.WideShapes (add_plain)
set_option linter.unusedVariables false
/-- A call of the item's closure moves the scanner from a to b and the rest from Q j to Q (j + 1). -/
def Item (T : List Int) (d C k : Nat) (Q : Nat → World → Prop) (g : Nat) (c0 c1 c2 : Value) (j a b : Nat) : Prop :=
  ∀ W, Sc T d C k W a → Q j W → Calls Ybaf.prog g #[c0, c1, c2] W fun x w' => x = .returned .nilIface ∧ Sc T d C k w' b ∧ Q (j + 1) w'

/-- n + 1 items from octet a on, then the closing octet; f: the octet behind it. -/
def Its (It : Nat → Nat → Nat → Prop) (T : List Int) (en : Int) : Nat → Nat → Nat → Nat → Prop
  | 0, j, a, f => ∃ b c, It j a b ∧ Sp T b c ∧ T.getD c 0 = en ∧ f = c + 1
  | n + 1, j, a, f => ∃ b c, It j a b ∧ Sp T b c ∧ T.getD c 0 = 44 ∧ Its It T en n (j + 1) (c + 1) f

theorem Its.imp {It It' : Nat → Nat → Nat → Prop} {T : List Int} {en : Int} (h : ∀ j a b, It j a b → It' j a b) : ∀ {n j a f : Nat}, Its It T en n j a f → Its It' T en n j a f
  | 0, _, _, _, ⟨b, c, h1, h2, h3, h4⟩ => ⟨b, c, h _ _ _ h1, h2, h3, h4⟩
  | _ + 1, _, _, _, ⟨b, c, h1, h2, h3, h4⟩ => ⟨b, c, h _ _ _ h1, h2, h3, Its.imp h h4⟩

set_option maxRecDepth 100000 in
theorem items_some {T : List Int} {d C k : Nat} {w : World} {o s : Nat} (Q : Nat → World → Prop) (hQ : ∀ j W W', Q j W → Kp k W W' → Q j W') (g : Nat) (hg : g = 29 ∨ g = 61) (c0 c1 c2 : Value) (en : Int) (hen : en ≠ 44) (what : ByteArray) (n f : Nat) (dep : Int) (hd1 : dep ≤ 9000)
    (hS : Sc T d C k w o) (hsp : Sp T (o + 1) s) (hne : T.getD s 0 ≠ en) (hq : Q 0 w) (hI : Its (Item T d C k Q g c0 c1 c2) T en n 0 s f) :
    Calls Ybaf.prog 28 #[.pointer (some ⟨k, 0, none⟩), .int .i64 dep, .int .u8 en, .string what, .func (Fn.func g) #[] #[c0, c1, c2]] w fun x w' => x = .returned .nilIface ∧ Sc T d C k w' f ∧ Q (n + 1) w' := by
  have hl := hS.hl
  have p1 := hS.c1
  have f1 := hS.f1
  have sl := hsp.lt
  have g1 : ¬ dep > 10000 := by omega
  have hle := hsp.le
  go_enter Ybaf.func28, Ybaf.ntmps28
  go_wp2_with fail
  have hA : At T d C k w (w.setCell ⟨k, 1, none⟩ (.int .i64 ((o : Int) + 1))) (o + 1) := (At.refl hS).mv _ _ (by omega) ⟨rfl, rfl, rfl, rfl⟩
  refine Calls.mono (space_to s hA.sc hsp.le (by omega) hsp.sp (fun _ => hsp.no)) ?_
  rintro x w1 ⟨rfl, hB⟩
  replace hA := hA.trans hB
  clear hB p1 f1
  go_wp2_with fail
  refine Calls.mono (at_at en false hA.sc sl (beq_of_ne hne)) ?_
  rintro x w2 ⟨rfl, hB⟩
  replace hA := hA.trans hB
  clear hB
  have hq2 : Q 0 w2 := hQ 0 _ _ hq hA.kp
  have hS2 := hA.sc
  go_wp2_with fail
  clear hA hS hq
  have HI : Hid _ := hI
  clear hI
  go_loopg [] n (fun gh wr => ∃ (m j a : Nat), m ≤ gh ∧ m + j = n ∧ Its (Item T d C k Q g c0 c1 c2) T en m j a f ∧ Sc T d C k wr a ∧ Q j wr)
  case atStart => exact ⟨n, 0, s, Nat.le_refl _, rfl, HI.out, hS2, hq2⟩
  case round =>
    obtain ⟨m, j, a, h1, h2, hI, hS, hq⟩ := hrel
    cases m with
    | zero =>
      obtain ⟨b, c, hit, hsp, hc, rfl⟩ := hI
      rcases hg with rfl | rfl
      all_goals
        go_wp2_with fail
        refine Calls.mono (hit wr hS hq) ?_
        rintro x w3 ⟨rfl, hS3, hq3⟩
        go_wp2_with fail
        refine Calls.mono (space_to c hS3 hsp.le (by have := hsp.lt; omega) hsp.sp (fun _ => hsp.no)) ?_
        rintro x w4 ⟨rfl, hA⟩
        go_wp2_with fail
        refine Calls.mono (at_at 44 false hA.sc hsp.lt (by rw [hc]; exact beq_of_ne hen)) ?_
        rintro x w5 ⟨rfl, hB⟩
        replace hA := hA.trans hB
        clear hB
        go_wp2_with fail
        refine Calls.mono (at_at en true hA.sc hsp.lt (beq_of_eq hc)) ?_
        rintro x w6 ⟨rfl, hB⟩
        replace hA := hA.trans hB
        clear hB
        have p1 := hA.sc.c1
        have f1 := hA.sc.f1
        have hcl := hsp.lt
        go_wp2_with fail
        go_ret
        have hA := hA.mv (c + 1) ((c : Int) + 1) (by omega) ⟨rfl, rfl, rfl, rfl⟩
        have e1 : n + 1 = j + 1 := by omega
        rw [e1]
        exact ⟨rfl, hA.sc, hQ _ _ _ hq3 hA.kp⟩
    | succ m =>
      obtain ⟨b, c, hit, hsp, hc, hI⟩ := hI
      rcases hg with rfl | rfl
      all_goals
        go_wp2_with fail
        refine Calls.mono (hit wr hS hq) ?_
        rintro x w3 ⟨rfl, hS3, hq3⟩
        go_wp2_with fail
        refine Calls.mono (space_to c hS3 hsp.le (by have := hsp.lt; omega) hsp.sp (fun _ => hsp.no)) ?_
        rintro x w4 ⟨rfl, hA⟩
        go_wp2_with fail
        refine Calls.mono (at_at 44 true hA.sc hsp.lt (beq_of_eq hc)) ?_
        rintro x w5 ⟨rfl, hB⟩
        replace hA := hA.trans hB
        clear hB
        have p1 := hA.sc.c1
        have f1 := hA.sc.f1
        have hcl := hsp.lt
        go_wp2_with fail
        have hA := hA.mv (c + 1) ((c : Int) + 1) (by omega) ⟨rfl, rfl, rfl, rfl⟩
        go_roundg m
        case measure => omega
        case rel => exact ⟨m, j + 1, c + 1, Nat.le_refl _, by omega, hI, hA.sc, hQ _ _ _ hq3 hA.kp⟩

set_option maxRecDepth 100000 in
theorem items_none {T : List Int} {d C k : Nat} {w : World} {o s : Nat} (en : Int) (what : ByteArray) (fv : Value) (dep : Int) (hd1 : dep ≤ 9000)
    (hS : Sc T d C k w o) (hsp : Sp T (o + 1) s) (he : T.getD s 0 = en) :
    Calls Ybaf.prog 28 #[.pointer (some ⟨k, 0, none⟩), .int .i64 dep, .int .u8 en, .string what, fv] w fun x w' => x = .returned .nilIface ∧ At T d C k w w' (s + 1) := by
  have hl := hS.hl
  have p1 := hS.c1
  have f1 := hS.f1
  have sl := hsp.lt
  have g1 : ¬ dep > 10000 := by omega
  have hle := hsp.le
  go_enter Ybaf.func28, Ybaf.ntmps28
  go_wp2_with fail
  have hA : At T d C k w (w.setCell ⟨k, 1, none⟩ (.int .i64 ((o : Int) + 1))) (o + 1) := (At.refl hS).mv _ _ (by omega) ⟨rfl, rfl, rfl, rfl⟩
  refine Calls.mono (space_to s hA.sc hsp.le (by omega) hsp.sp (fun _ => hsp.no)) ?_
  rintro x w1 ⟨rfl, hB⟩
  replace hA := hA.trans hB
  clear hB p1 f1
  go_wp2_with fail
  refine Calls.mono (at_at en true hA.sc sl (beq_of_eq he)) ?_
  rintro x w2 ⟨rfl, hB⟩
  replace hA := hA.trans hB
  clear hB
  have p1 := hA.sc.c1
  have f1 := hA.sc.f1
  go_wp2_with fail
  go_ret
  exact ⟨rfl, hA.mv _ ((s : Int) + 1) (by omega) ⟨rfl, rfl, rfl, rfl⟩⟩

/-- The boxes that 'array' and 'object' lay: the scanner, the depth, the callback. -/
structure Boxes (k p t : Nat) (dep : Int) (fv : Value) (w : World) : Prop where
  b0 : w.heap[p]? = some (.cells #[.pointer (some ⟨k, 0, none⟩)] 86 (0, 0))
  b1 : w.heap[p + 1]? = some (.cells #[.int .i64 dep] 3 (0, 0))
  b2 : w.heap[p + 1 + 1]? = some (.cells #[fv] t (0, 0))
  lt : k < p

theorem block_lt {w : World} {i : Nat} {o : Obj} (h : w.heap[i]? = some o) : i < w.heap.size := by
  rcases Nat.lt_or_ge i w.heap.size with g | g
  · exact g
  · rw [Array.getElem?_eq_none g] at h; cases h

theorem Boxes.kp {k p t : Nat} {dep : Int} {fv : Value} {w w' : World} (h : Boxes k p t dep fv w) (g : Kp k w w') : Boxes k p t dep fv w' := by
  have := h.lt
  exact ⟨by rw [g.block _ (block_lt h.b0) (by omega)]; exact h.b0, by rw [g.block _ (block_lt h.b1) (by omega)]; exact h.b1, by rw [g.block _ (block_lt h.b2) (by omega)]; exact h.b2, h.lt⟩

theorem eq_nil75 (w : World) : (binOp .neq 75 .nilFunc .nilFunc).run Ybaf.prog w = .ok (.bool false) w := by kernel_rfl
theorem eq_nil105 (w : World) : (binOp .eql 105 .nilFunc .nilFunc).run Ybaf.prog w = .ok (.bool true) w := by kernel_rfl

/-- An element of an array with no callback. -/
theorem item_arr {T : List Int} {d C k p : Nat} {dep : Int} {wB : World} (hb : Boxes k p 75 dep .nilFunc wB) (j a b : Nat) (hv : ∃ s, ∀ W, Sc T d C k W a → Val T d C k dep W s b) :
    Item T d C k (fun _ W => Kp k wB W) 29 (.pointer (some ⟨p, 0, none⟩)) (.pointer (some ⟨p + 1, 0, none⟩)) (.pointer (some ⟨p + 1 + 1, 0, none⟩)) j a b := by
  intro W hS hK
  obtain ⟨s, hv⟩ := hv
  have hB := hb.kp hK
  have x0 := cell_of_block hB.b0 0
  have x1 := cell_of_block hB.b1 0
  have y : ∀ W', Kp k W W' → W'.cell? ⟨p + 1 + 1, 0, none⟩ = some .nilFunc := fun W' h => cell_of_block (hB.kp h).b2 0
  have HY : Hid _ := y
  simp at x0 x1
  clear y
  have hnf := eq_nil75
  go_enter Ybaf.func29, Ybaf.ntmps29
  go_wp2_with fail
  refine Calls.mono (hv _ hS) ?_
  rintro x w1 ⟨rfl, hA⟩
  have x2 := HY.out _ hA.kp
  have HA : Hid _ := hA
  clear hA
  go_wp2_with fail
  go_ret
  exact ⟨rfl, HA.out.sc, hK.trans HA.out.kp⟩
end Go.Proofs.YbulkdfkFmt
