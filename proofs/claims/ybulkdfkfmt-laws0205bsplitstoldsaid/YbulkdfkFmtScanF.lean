import Derived.Test.YbulkdfkFmtScanE
namespace Go.Proofs.YbulkdfkFmt
open Go.RowKit
open Go.WideShapes (add_plain)
set_option linter.unusedVariables false

theorem Boxes.made (k t : Nat) (dep : Int) (fv : Value) (w : World) (hk : k < w.heap.size) :
    Boxes k w.heap.size t dep fv (((w.alloc (.cells #[.pointer (some ⟨k, 0, none⟩)] 86)).alloc (.cells #[.int .i64 dep] 3)).alloc (.cells #[fv] t)) := by
  have e1 : (w.alloc (.cells #[.pointer (some ⟨k, 0, none⟩)] 86)).heap.size = w.heap.size + 1 := by simp
  have e2 : ((w.alloc (.cells #[.pointer (some ⟨k, 0, none⟩)] 86)).alloc (.cells #[.int .i64 dep] 3)).heap.size = w.heap.size + 1 + 1 := by simp
  refine ⟨?_, ?_, ?_, hk⟩
  · rw [Below.heap_alloc _ _ _ (by omega), Below.heap_alloc _ _ _ (by omega)]; exact heap_alloc_new w _
  · rw [Below.heap_alloc _ _ _ (by omega), ← e1]; exact heap_alloc_new _ _
  · rw [← e2]; exact heap_alloc_new _ _

theorem Kp.made (k t : Nat) (dep : Int) (fv : Value) (w : World) : Kp k w (((w.alloc (.cells #[.pointer (some ⟨k, 0, none⟩)] 86)).alloc (.cells #[.int .i64 dep] 3)).alloc (.cells #[fv] t)) :=
  (((Kp.refl k w).alloc _).alloc _).alloc _
theorem Sc.made {T : List Int} {d C k : Nat} {w : World} {o : Nat} (h : Sc T d C k w o) (t : Nat) (dep : Int) (fv : Value) : Sc T d C k (((w.alloc (.cells #[.pointer (some ⟨k, 0, none⟩)] 86)).alloc (.cells #[.int .i64 dep] 3)).alloc (.cells #[fv] t)) o :=
  h.below ((((Below.refl _ w).alloc (Nat.le_refl _) _).alloc (by simp) _).alloc (by simp; omega) _)

set_option maxRecDepth 100000 in
theorem array_none {T : List Int} {d C k : Nat} {w : World} {o s : Nat} (dep : Int) (hd1 : dep ≤ 9000) (hS : Sc T d C k w o) (hsp : Sp T (o + 1) s) (he : T.getD s 0 = 93) :
    Calls Ybaf.prog 19 #[.pointer (some ⟨k, 0, none⟩), .int .i64 dep, .nilFunc] w fun x w' => x = .returned .nilIface ∧ At T d C k w w' (s + 1) := by
  have hB := Boxes.made k 75 dep (.nilFunc) w hS.klt
  have x0 := cell_of_block hB.b0 0
  have x1 := cell_of_block hB.b1 0
  have HS := hS.made 75 dep (.nilFunc)
  have HK := Kp.made k 75 dep (.nilFunc) w
  clear hB
  go_enter Ybaf.func19, Ybaf.ntmps19
  go_wp2_with fail
  refine Calls.mono (items_none 93 _ _ dep hd1 HS hsp he) ?_
  rintro x w1 ⟨rfl, hA⟩
  clear x0 x1
  go_wp2_with fail
  go_ret
  exact ⟨rfl, hA.sc, HK.trans hA.kp⟩

set_option maxRecDepth 100000 in
theorem array_cb_none {T : List Int} {d C k : Nat} {w : World} {o s : Nat} (dep : Int) (q : Nat) (hd1 : dep ≤ 9000) (hS : Sc T d C k w o) (hsp : Sp T (o + 1) s) (he : T.getD s 0 = 93) :
    Calls Ybaf.prog 19 #[.pointer (some ⟨k, 0, none⟩), .int .i64 dep, .func (Fn.func 20) #[] #[.pointer (some ⟨q, 0, none⟩)]] w fun x w' => x = .returned .nilIface ∧ At T d C k w w' (s + 1) := by
  have hB := Boxes.made k 75 dep (.func (Fn.func 20) #[] #[.pointer (some ⟨q, 0, none⟩)]) w hS.klt
  have x0 := cell_of_block hB.b0 0
  have x1 := cell_of_block hB.b1 0
  have HS := hS.made 75 dep (.func (Fn.func 20) #[] #[.pointer (some ⟨q, 0, none⟩)])
  have HK := Kp.made k 75 dep (.func (Fn.func 20) #[] #[.pointer (some ⟨q, 0, none⟩)]) w
  clear hB
  go_enter Ybaf.func19, Ybaf.ntmps19
  go_wp2_with fail
  refine Calls.mono (items_none 93 _ _ dep hd1 HS hsp he) ?_
  rintro x w1 ⟨rfl, hA⟩
  clear x0 x1
  go_wp2_with fail
  go_ret
  exact ⟨rfl, hA.sc, HK.trans hA.kp⟩

set_option maxRecDepth 100000 in
theorem object_none {T : List Int} {d C k : Nat} {w : World} {o s : Nat} (dep : Int) (hd1 : dep ≤ 9000) (hS : Sc T d C k w o) (hsp : Sp T (o + 1) s) (he : T.getD s 0 = 125) :
    Calls Ybaf.prog 46 #[.pointer (some ⟨k, 0, none⟩), .int .i64 dep, .nilFunc] w fun x w' => x = .returned .nilIface ∧ At T d C k w w' (s + 1) := by
  have hB := Boxes.made k 105 dep (.nilFunc) w hS.klt
  have x0 := cell_of_block hB.b0 0
  have x1 := cell_of_block hB.b1 0
  have HS := hS.made 105 dep (.nilFunc)
  have HK := Kp.made k 105 dep (.nilFunc) w
  clear hB
  go_enter Ybaf.func46, Ybaf.ntmps46
  go_wp2_with fail
  refine Calls.mono (items_none 125 _ _ dep hd1 HS hsp he) ?_
  rintro x w1 ⟨rfl, hA⟩
  clear x0 x1
  go_wp2_with fail
  go_ret
  exact ⟨rfl, hA.sc, HK.trans hA.kp⟩

set_option maxRecDepth 100000 in
theorem array_some {T : List Int} {d C k : Nat} {w : World} {o s f n : Nat} (dep : Int) (hd1 : dep ≤ 9000) (hS : Sc T d C k w o) (hsp : Sp T (o + 1) s) (hne : T.getD s 0 ≠ 93)
    (hI : ∀ wB p, Boxes k p 75 dep .nilFunc wB → Its (Item T d C k (fun _ W => Kp k wB W) 29 (.pointer (some ⟨p, 0, none⟩)) (.pointer (some ⟨p + 1, 0, none⟩)) (.pointer (some ⟨p + 1 + 1, 0, none⟩))) T 93 n 0 s f) :
    Calls Ybaf.prog 19 #[.pointer (some ⟨k, 0, none⟩), .int .i64 dep, .nilFunc] w fun x w' => x = .returned .nilIface ∧ At T d C k w w' f := by
  have hB := Boxes.made k 75 dep .nilFunc w hS.klt
  have x0 := cell_of_block hB.b0 0
  have x1 := cell_of_block hB.b1 0
  have HS := hS.made 75 dep .nilFunc
  have HK := Kp.made k 75 dep .nilFunc w
  have HI : Hid _ := hI _ _ hB
  clear hB hI
  go_enter Ybaf.func19, Ybaf.ntmps19
  go_wp2_with fail
  refine Calls.mono (items_some (fun _ W => Kp k (((w.alloc (.cells #[.pointer (some ⟨k, 0, none⟩)] 86)).alloc (.cells #[.int .i64 dep] 3)).alloc (.cells #[.nilFunc] 75)) W) (fun _ _ _ h1 h2 => h1.trans h2) 29 (by decide) _ _ _ 93 (by decide) _ n f dep hd1 HS hsp hne (Kp.refl _ _) HI.out) ?_
  rintro x w1 ⟨rfl, hS1, hK1⟩
  clear x0 x1
  go_wp2_with fail
  go_ret
  exact ⟨rfl, hS1, HK.trans hK1⟩

set_option maxRecDepth 100000 in
theorem object_some {T : List Int} {d C k : Nat} {w : World} {o s f n : Nat} (dep : Int) (hd1 : dep ≤ 9000) (hS : Sc T d C k w o) (hsp : Sp T (o + 1) s) (hne : T.getD s 0 ≠ 125)
    (hI : ∀ wB p, Boxes k p 105 dep .nilFunc wB → Its (Item T d C k (fun _ W => Kp k wB W) 61 (.pointer (some ⟨p, 0, none⟩)) (.pointer (some ⟨p + 1, 0, none⟩)) (.pointer (some ⟨p + 1 + 1, 0, none⟩))) T 125 n 0 s f) :
    Calls Ybaf.prog 46 #[.pointer (some ⟨k, 0, none⟩), .int .i64 dep, .nilFunc] w fun x w' => x = .returned .nilIface ∧ At T d C k w w' f := by
  have hB := Boxes.made k 105 dep .nilFunc w hS.klt
  have x0 := cell_of_block hB.b0 0
  have x1 := cell_of_block hB.b1 0
  have HS := hS.made 105 dep .nilFunc
  have HK := Kp.made k 105 dep .nilFunc w
  have HI : Hid _ := hI _ _ hB
  clear hB hI
  go_enter Ybaf.func46, Ybaf.ntmps46
  go_wp2_with fail
  refine Calls.mono (items_some (fun _ W => Kp k (((w.alloc (.cells #[.pointer (some ⟨k, 0, none⟩)] 86)).alloc (.cells #[.int .i64 dep] 3)).alloc (.cells #[.nilFunc] 105)) W) (fun _ _ _ h1 h2 => h1.trans h2) 61 (by decide) _ _ _ 125 (by decide) _ n f dep hd1 HS hsp hne (Kp.refl _ _) HI.out) ?_
  rintro x w1 ⟨rfl, hS1, hK1⟩
  clear x0 x1
  go_wp2_with fail
  go_ret
  exact ⟨rfl, hS1, HK.trans hK1⟩


set_option maxRecDepth 100000 in
/-- A member of an object with no callback: its name, a colon, its value. -/
theorem item_obj {T : List Int} {d C k p : Nat} {dep : Int} {wB : World} (hb : Boxes k p 105 dep .nilFunc wB) (j a b : Nat) (l : List Int) (s1 s2 : Nat) (h1 : Sp T a s1) (h2 : Seg T s1 (34 :: (l ++ [34]))) (hl : body l = true)
    (h3 : Sp T (s1 + l.length + 2) s2) (h4 : T.getD s2 0 = 58) (hv : ∃ s, ∀ W, Sc T d C k W (s2 + 1) → Val T d C k dep W s b) :
    Item T d C k (fun _ W => Kp k wB W) 61 (.pointer (some ⟨p, 0, none⟩)) (.pointer (some ⟨p + 1, 0, none⟩)) (.pointer (some ⟨p + 1 + 1, 0, none⟩)) j a b := by
  intro W hS hK
  obtain ⟨s, hv⟩ := hv
  have hB := hb.kp hK
  have hbig := hS.hl
  have z1 := h1.lt
  have z3 := h3.lt
  have y0 : ∀ W', Kp k W W' → W'.cell? ⟨p, 0, none⟩ = some (.pointer (some ⟨k, 0, none⟩)) := fun W' h => cell_of_block (hB.kp h).b0 0
  have y1 : ∀ W', Kp k W W' → W'.cell? ⟨p + 1, 0, none⟩ = some (.int .i64 dep) := fun W' h => cell_of_block (hB.kp h).b1 0
  have y2 : ∀ W', Kp k W W' → W'.cell? ⟨p + 1 + 1, 0, none⟩ = some .nilFunc := fun W' h => cell_of_block (hB.kp h).b2 0
  have Y0 : Hid _ := y0
  have Y1 : Hid _ := y1
  have Y2 : Hid _ := y2
  clear y0 y1 y2
  have x0 := Y0.out W (Kp.refl _ _)
  have hnf := eq_nil105
  go_enter Ybaf.func61, Ybaf.ntmps61
  go_wp2_with fail
  refine Calls.mono (space_to s1 hS h1.le (by omega) h1.sp (fun _ => h1.no)) ?_
  rintro x w1 ⟨rfl, hA⟩
  clear x0
  have x0 := Y0.out w1 hA.kp
  go_wp2_with fail
  refine Calls.mono (at_at 34 true hA.sc z1 (beq_of_eq h2.head)) ?_
  rintro x w2 ⟨rfl, hC⟩
  replace hA := hA.trans hC
  clear x0 hC
  have x0 := Y0.out w2 hA.kp
  go_wp2_with fail
  refine Calls.mono (str_to l hA.sc h2 hl) ?_
  rintro x w3 ⟨rfl, hC⟩
  replace hA := hA.trans hC
  clear x0 hC
  have x0 := Y0.out w3 hA.kp
  go_wp2_with fail
  refine Calls.mono (space_to s2 hA.sc h3.le (by omega) h3.sp (fun _ => h3.no)) ?_
  rintro x w4 ⟨rfl, hC⟩
  replace hA := hA.trans hC
  clear x0 hC
  have x0 := Y0.out w4 hA.kp
  go_wp2_with fail
  refine Calls.mono (at_at 58 true hA.sc z3 (beq_of_eq h4)) ?_
  rintro x w5 ⟨rfl, hC⟩
  replace hA := hA.trans hC
  clear x0 hC
  have x0 := Y0.out w5 hA.kp
  have p1 := hA.sc.c1
  have f1 := hA.sc.f1
  have hA6 : At T d C k W (w5.setCell ⟨k, 1, none⟩ (.int .i64 ((s2 : Int) + 1))) (s2 + 1) := hA.mv _ _ (by omega) ⟨rfl, rfl, rfl, rfl⟩
  have x6 := Y0.out _ hA6.kp
  have x7 := Y1.out _ hA6.kp
  go_wp2_with fail
  refine Calls.mono (hv _ hA6.sc) ?_
  rintro x w7 ⟨rfl, hC⟩
  replace hA6 := hA6.trans hC
  clear x0 hC p1 f1 x6 x7 hA
  have x2 := Y2.out w7 hA6.kp
  go_wp2_with fail
  go_ret
  exact ⟨rfl, hA6.sc, hK.trans hA6.kp⟩
end Go.Proofs.YbulkdfkFmt
