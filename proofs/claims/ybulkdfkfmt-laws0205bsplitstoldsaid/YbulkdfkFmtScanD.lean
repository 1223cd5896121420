import Derived.Test.YbulkdfkFmtScanC
namespace Go.Proofs.YbulkdfkFmt
open Go.RowKit
open Go.WideShapes (add_plain)
set_option linter.unusedVariables false

/-- What 'value' hands back, from the scanner's place o: the element s .. e of the text. -/
def Val (T : List Int) (d C k : Nat) (dep : Int) (w : World) (s e : Nat) : Prop :=
  Calls Ybaf.prog 30 #[.pointer (some ⟨k, 0, none⟩), .int .i64 dep] w fun x w' => x = .returned (.tuple #[.slice (some ⟨d, s, none⟩) (e - s) (C - s), .nilIface]) ∧ At T d C k w w' e

set_option maxRecDepth 100000 in
/-- 'at' only reads. -/
theorem at_q {T : List Int} {d C k : Nat} {w : World} {o : Nat} (c : Int) (b : Bool) (hS : Sc T d C k w o) (ho : o < T.length) (hb : (T.getD o 0 == c) = b) :
    Calls Ybaf.prog 18 #[.pointer (some ⟨k, 0, none⟩), .int .u8 c] w fun e w' => e = .returned (.bool b) ∧ ∃ n, w' = w.drewN n := by
  have c0 := hS.c0
  have c1 := hS.c1
  have ct := hS.t o ho
  clear hS
  generalize T.getD o 0 = x at *
  have g1 : (o : Int) < (T.length : Int) := by omega
  have g2 : (0 : Int) ≤ (o : Int) := by omega
  go_enter Ybaf.func18, Ybaf.ntmps18
  go_wp2
  go_quiet (fail)
  go_wp2
  go_ret
  exact ⟨rfl, _, rfl⟩

/-- White space from o to s. -/
structure Sp (T : List Int) (o s : Nat) : Prop where
  le : o ≤ s
  lt : s < T.length
  sp : ∀ i, o ≤ i → i < s → isSp (T.getD i 0) = true
  no : isSp (T.getD s 0) = false

set_option maxRecDepth 100000 in
theorem value_obj {T : List Int} {d C k : Nat} {w : World} {o s e : Nat} (dep : Int) (hd0 : 0 ≤ dep) (hd1 : dep ≤ 9000) (hS : Sc T d C k w o) (hsp : Sp T o s) (hx : T.getD s 0 = 123) (hse : s < e) (heL : e ≤ T.length)
    (hsub : ∀ W, Sc T d C k W s → Calls Ybaf.prog 46 #[.pointer (some ⟨k, 0, none⟩), .int .i64 (dep + 1), .nilFunc] W fun x w' => x = .returned .nilIface ∧ At T d C k W w' e) : Val T d C k dep w s e := by
  have hl := hS.hl
  have hc := hS.hc
  have hw : IntKind.i64.wrap (dep + 1) = dep + 1 := wrap_small (by omega) (by omega)
  have HSUB : Hid _ := hsub
  have sl := hsp.lt
  clear hsub
  unfold Val
  go_enter Ybaf.func30, Ybaf.ntmps30
  go_wp2_with fail
  refine Calls.mono (space_to s hS hsp.le (by omega) hsp.sp (fun _ => hsp.no)) ?_
  rintro x w1 ⟨rfl, hA⟩
  have c1 := hA.sc.c1
  go_wp2_with fail
  clear c1
  refine Calls.mono (at_at 123 true hA.sc sl (by rw [hx]; rfl)) ?_
  rintro x w2 ⟨rfl, hB⟩
  replace hA := hA.trans hB
  clear hB
  go_wp2_with fail
  refine Calls.mono (HSUB.out _ (hA.sc.heap (by rfl))) ?_
  rintro x w9 ⟨rfl, hB⟩
  have hA : At T d C k w w9 e := (hA.same (by exact ⟨rfl, rfl, rfl, rfl⟩)).trans hB
  clear hB
  have c0 := hA.sc.c0
  have c1 := hA.sc.c1
  have m1 : (s : Int) ≤ (e : Int) := by omega
  have m2 : (e : Int) ≤ (C : Int) := by omega
  have m3 : (0 : Int) ≤ (s : Int) := by omega
  have m8 : ¬ C = s := by omega
  have HA : Hid _ := hA
  clear hA
  go_wp2_with fail
  go_quiet (fail)
  go_wp2_with fail
  go_ret2
  exact ⟨rfl, HA.out.same (by exact ⟨rfl, rfl, rfl, rfl⟩)⟩

set_option maxRecDepth 100000 in
theorem value_arr {T : List Int} {d C k : Nat} {w : World} {o s e : Nat} (dep : Int) (hd0 : 0 ≤ dep) (hd1 : dep ≤ 9000) (hS : Sc T d C k w o) (hsp : Sp T o s) (hx : T.getD s 0 = 91) (hse : s < e) (heL : e ≤ T.length)
    (hsub : ∀ W, Sc T d C k W s → Calls Ybaf.prog 19 #[.pointer (some ⟨k, 0, none⟩), .int .i64 (dep + 1), .nilFunc] W fun x w' => x = .returned .nilIface ∧ At T d C k W w' e) : Val T d C k dep w s e := by
  have hl := hS.hl
  have hc := hS.hc
  have hw : IntKind.i64.wrap (dep + 1) = dep + 1 := wrap_small (by omega) (by omega)
  have HSUB : Hid _ := hsub
  have sl := hsp.lt
  clear hsub
  unfold Val
  go_enter Ybaf.func30, Ybaf.ntmps30
  go_wp2_with fail
  refine Calls.mono (space_to s hS hsp.le (by omega) hsp.sp (fun _ => hsp.no)) ?_
  rintro x w1 ⟨rfl, hA⟩
  have c1 := hA.sc.c1
  go_wp2_with fail
  clear c1
  refine Calls.mono (at_at 123 false hA.sc sl (by rw [hx]; rfl)) ?_
  rintro x w2 ⟨rfl, hB⟩
  replace hA := hA.trans hB
  clear hB
  go_wp2_with fail
  refine Calls.mono (at_at 91 true hA.sc sl (by rw [hx]; rfl)) ?_
  rintro x w3 ⟨rfl, hB⟩
  replace hA := hA.trans hB
  clear hB
  go_wp2_with fail
  refine Calls.mono (HSUB.out _ (hA.sc.heap (by rfl))) ?_
  rintro x w9 ⟨rfl, hB⟩
  have hA : At T d C k w w9 e := (hA.same (by exact ⟨rfl, rfl, rfl, rfl⟩)).trans hB
  clear hB
  have c0 := hA.sc.c0
  have c1 := hA.sc.c1
  have m1 : (s : Int) ≤ (e : Int) := by omega
  have m2 : (e : Int) ≤ (C : Int) := by omega
  have m3 : (0 : Int) ≤ (s : Int) := by omega
  have m8 : ¬ C = s := by omega
  have HA : Hid _ := hA
  clear hA
  go_wp2_with fail
  go_quiet (fail)
  go_wp2_with fail
  go_ret2
  exact ⟨rfl, HA.out.same (by exact ⟨rfl, rfl, rfl, rfl⟩)⟩

set_option maxRecDepth 100000 in
theorem value_str {T : List Int} {d C k : Nat} {w : World} {o s e : Nat} (dep : Int) (hd0 : 0 ≤ dep) (hd1 : dep ≤ 9000) (hS : Sc T d C k w o) (hsp : Sp T o s) (hx : T.getD s 0 = 34) (hse : s < e) (heL : e ≤ T.length)
    (hsub : ∀ W, Sc T d C k W s → Calls Ybaf.prog 47 #[.pointer (some ⟨k, 0, none⟩)] W fun x w' => (∃ v, x = .returned (.tuple #[v, .nilIface])) ∧ At T d C k W w' e) : Val T d C k dep w s e := by
  have hl := hS.hl
  have hc := hS.hc
  have hw : IntKind.i64.wrap (dep + 1) = dep + 1 := wrap_small (by omega) (by omega)
  have HSUB : Hid _ := hsub
  have sl := hsp.lt
  clear hsub
  unfold Val
  go_enter Ybaf.func30, Ybaf.ntmps30
  go_wp2_with fail
  refine Calls.mono (space_to s hS hsp.le (by omega) hsp.sp (fun _ => hsp.no)) ?_
  rintro x w1 ⟨rfl, hA⟩
  have c1 := hA.sc.c1
  go_wp2_with fail
  clear c1
  refine Calls.mono (at_at 123 false hA.sc sl (by rw [hx]; rfl)) ?_
  rintro x w2 ⟨rfl, hB⟩
  replace hA := hA.trans hB
  clear hB
  go_wp2_with fail
  refine Calls.mono (at_at 91 false hA.sc sl (by rw [hx]; rfl)) ?_
  rintro x w3 ⟨rfl, hB⟩
  replace hA := hA.trans hB
  clear hB
  go_wp2_with fail
  refine Calls.mono (at_at 34 true hA.sc sl (by rw [hx]; rfl)) ?_
  rintro x w4 ⟨rfl, hB⟩
  replace hA := hA.trans hB
  clear hB
  go_wp2_with fail
  refine Calls.mono (HSUB.out _ (hA.sc.heap (by rfl))) ?_
  rintro x w9 ⟨⟨v, rfl⟩, hB⟩
  have hA : At T d C k w w9 e := (hA.same (by exact ⟨rfl, rfl, rfl, rfl⟩)).trans hB
  clear hB
  have c0 := hA.sc.c0
  have c1 := hA.sc.c1
  have m1 : (s : Int) ≤ (e : Int) := by omega
  have m2 : (e : Int) ≤ (C : Int) := by omega
  have m3 : (0 : Int) ≤ (s : Int) := by omega
  have m8 : ¬ C = s := by omega
  have HA : Hid _ := hA
  clear hA
  go_wp2_with fail
  go_quiet (fail)
  go_wp2_with fail
  go_ret2
  exact ⟨rfl, HA.out.same (by exact ⟨rfl, rfl, rfl, rfl⟩)⟩

set_option maxRecDepth 100000 in
theorem value_true {T : List Int} {d C k : Nat} {w : World} {o s e : Nat} (dep : Int) (hd0 : 0 ≤ dep) (hd1 : dep ≤ 9000) (hS : Sc T d C k w o) (hsp : Sp T o s) (hx : T.getD s 0 = 116) (hse : s < e) (heL : e ≤ T.length)
    (hsub : ∀ W, Sc T d C k W s → Calls Ybaf.prog 48 #[.pointer (some ⟨k, 0, none⟩), .string ⟨#[116, 114, 117, 101]⟩] W fun x w' => x = .returned .nilIface ∧ At T d C k W w' e) : Val T d C k dep w s e := by
  have hl := hS.hl
  have hc := hS.hc
  have hw : IntKind.i64.wrap (dep + 1) = dep + 1 := wrap_small (by omega) (by omega)
  have HSUB : Hid _ := hsub
  have sl := hsp.lt
  clear hsub
  unfold Val
  go_enter Ybaf.func30, Ybaf.ntmps30
  go_wp2_with fail
  refine Calls.mono (space_to s hS hsp.le (by omega) hsp.sp (fun _ => hsp.no)) ?_
  rintro x w1 ⟨rfl, hA⟩
  have c1 := hA.sc.c1
  go_wp2_with fail
  clear c1
  refine Calls.mono (at_at 123 false hA.sc sl (by rw [hx]; rfl)) ?_
  rintro x w2 ⟨rfl, hB⟩
  replace hA := hA.trans hB
  clear hB
  go_wp2_with fail
  refine Calls.mono (at_at 91 false hA.sc sl (by rw [hx]; rfl)) ?_
  rintro x w3 ⟨rfl, hB⟩
  replace hA := hA.trans hB
  clear hB
  go_wp2_with fail
  refine Calls.mono (at_at 34 false hA.sc sl (by rw [hx]; rfl)) ?_
  rintro x w4 ⟨rfl, hB⟩
  replace hA := hA.trans hB
  clear hB
  go_wp2_with fail
  refine Calls.mono (at_at 116 true hA.sc sl (by rw [hx]; rfl)) ?_
  rintro x w5 ⟨rfl, hB⟩
  replace hA := hA.trans hB
  clear hB
  go_wp2_with fail
  refine Calls.mono (HSUB.out _ (hA.sc.heap (by rfl))) ?_
  rintro x w9 ⟨rfl, hB⟩
  have hA : At T d C k w w9 e := (hA.same (by exact ⟨rfl, rfl, rfl, rfl⟩)).trans hB
  clear hB
  have c0 := hA.sc.c0
  have c1 := hA.sc.c1
  have m1 : (s : Int) ≤ (e : Int) := by omega
  have m2 : (e : Int) ≤ (C : Int) := by omega
  have m3 : (0 : Int) ≤ (s : Int) := by omega
  have m8 : ¬ C = s := by omega
  have HA : Hid _ := hA
  clear hA
  go_wp2_with fail
  go_quiet (fail)
  go_wp2_with fail
  go_ret2
  exact ⟨rfl, HA.out.same (by exact ⟨rfl, rfl, rfl, rfl⟩)⟩

set_option maxRecDepth 100000 in
theorem value_false {T : List Int} {d C k : Nat} {w : World} {o s e : Nat} (dep : Int) (hd0 : 0 ≤ dep) (hd1 : dep ≤ 9000) (hS : Sc T d C k w o) (hsp : Sp T o s) (hx : T.getD s 0 = 102) (hse : s < e) (heL : e ≤ T.length)
    (hsub : ∀ W, Sc T d C k W s → Calls Ybaf.prog 48 #[.pointer (some ⟨k, 0, none⟩), .string ⟨#[102, 97, 108, 115, 101]⟩] W fun x w' => x = .returned .nilIface ∧ At T d C k W w' e) : Val T d C k dep w s e := by
  have hl := hS.hl
  have hc := hS.hc
  have hw : IntKind.i64.wrap (dep + 1) = dep + 1 := wrap_small (by omega) (by omega)
  have HSUB : Hid _ := hsub
  have sl := hsp.lt
  clear hsub
  unfold Val
  go_enter Ybaf.func30, Ybaf.ntmps30
  go_wp2_with fail
  refine Calls.mono (space_to s hS hsp.le (by omega) hsp.sp (fun _ => hsp.no)) ?_
  rintro x w1 ⟨rfl, hA⟩
  have c1 := hA.sc.c1
  go_wp2_with fail
  clear c1
  refine Calls.mono (at_at 123 false hA.sc sl (by rw [hx]; rfl)) ?_
  rintro x w2 ⟨rfl, hB⟩
  replace hA := hA.trans hB
  clear hB
  go_wp2_with fail
  refine Calls.mono (at_at 91 false hA.sc sl (by rw [hx]; rfl)) ?_
  rintro x w3 ⟨rfl, hB⟩
  replace hA := hA.trans hB
  clear hB
  go_wp2_with fail
  refine Calls.mono (at_at 34 false hA.sc sl (by rw [hx]; rfl)) ?_
  rintro x w4 ⟨rfl, hB⟩
  replace hA := hA.trans hB
  clear hB
  go_wp2_with fail
  refine Calls.mono (at_at 116 false hA.sc sl (by rw [hx]; rfl)) ?_
  rintro x w5 ⟨rfl, hB⟩
  replace hA := hA.trans hB
  clear hB
  go_wp2_with fail
  refine Calls.mono (at_at 102 true hA.sc sl (by rw [hx]; rfl)) ?_
  rintro x w6 ⟨rfl, hB⟩
  replace hA := hA.trans hB
  clear hB
  go_wp2_with fail
  refine Calls.mono (HSUB.out _ (hA.sc.heap (by rfl))) ?_
  rintro x w9 ⟨rfl, hB⟩
  have hA : At T d C k w w9 e := (hA.same (by exact ⟨rfl, rfl, rfl, rfl⟩)).trans hB
  clear hB
  have c0 := hA.sc.c0
  have c1 := hA.sc.c1
  have m1 : (s : Int) ≤ (e : Int) := by omega
  have m2 : (e : Int) ≤ (C : Int) := by omega
  have m3 : (0 : Int) ≤ (s : Int) := by omega
  have m8 : ¬ C = s := by omega
  have HA : Hid _ := hA
  clear hA
  go_wp2_with fail
  go_quiet (fail)
  go_wp2_with fail
  go_ret2
  exact ⟨rfl, HA.out.same (by exact ⟨rfl, rfl, rfl, rfl⟩)⟩

set_option maxRecDepth 100000 in
theorem value_null {T : List Int} {d C k : Nat} {w : World} {o s e : Nat} (dep : Int) (hd0 : 0 ≤ dep) (hd1 : dep ≤ 9000) (hS : Sc T d C k w o) (hsp : Sp T o s) (hx : T.getD s 0 = 110) (hse : s < e) (heL : e ≤ T.length)
    (hsub : ∀ W, Sc T d C k W s → Calls Ybaf.prog 48 #[.pointer (some ⟨k, 0, none⟩), .string ⟨#[110, 117, 108, 108]⟩] W fun x w' => x = .returned .nilIface ∧ At T d C k W w' e) : Val T d C k dep w s e := by
  have hl := hS.hl
  have hc := hS.hc
  have hw : IntKind.i64.wrap (dep + 1) = dep + 1 := wrap_small (by omega) (by omega)
  have HSUB : Hid _ := hsub
  have sl := hsp.lt
  clear hsub
  unfold Val
  go_enter Ybaf.func30, Ybaf.ntmps30
  go_wp2_with fail
  refine Calls.mono (space_to s hS hsp.le (by omega) hsp.sp (fun _ => hsp.no)) ?_
  rintro x w1 ⟨rfl, hA⟩
  have c1 := hA.sc.c1
  go_wp2_with fail
  clear c1
  refine Calls.mono (at_at 123 false hA.sc sl (by rw [hx]; rfl)) ?_
  rintro x w2 ⟨rfl, hB⟩
  replace hA := hA.trans hB
  clear hB
  go_wp2_with fail
  refine Calls.mono (at_at 91 false hA.sc sl (by rw [hx]; rfl)) ?_
  rintro x w3 ⟨rfl, hB⟩
  replace hA := hA.trans hB
  clear hB
  go_wp2_with fail
  refine Calls.mono (at_at 34 false hA.sc sl (by rw [hx]; rfl)) ?_
  rintro x w4 ⟨rfl, hB⟩
  replace hA := hA.trans hB
  clear hB
  go_wp2_with fail
  refine Calls.mono (at_at 116 false hA.sc sl (by rw [hx]; rfl)) ?_
  rintro x w5 ⟨rfl, hB⟩
  replace hA := hA.trans hB
  clear hB
  go_wp2_with fail
  refine Calls.mono (at_at 102 false hA.sc sl (by rw [hx]; rfl)) ?_
  rintro x w6 ⟨rfl, hB⟩
  replace hA := hA.trans hB
  clear hB
  go_wp2_with fail
  refine Calls.mono (at_at 110 true hA.sc sl (by rw [hx]; rfl)) ?_
  rintro x w7 ⟨rfl, hB⟩
  replace hA := hA.trans hB
  clear hB
  go_wp2_with fail
  refine Calls.mono (HSUB.out _ (hA.sc.heap (by rfl))) ?_
  rintro x w9 ⟨rfl, hB⟩
  have hA : At T d C k w w9 e := (hA.same (by exact ⟨rfl, rfl, rfl, rfl⟩)).trans hB
  clear hB
  have c0 := hA.sc.c0
  have c1 := hA.sc.c1
  have m1 : (s : Int) ≤ (e : Int) := by omega
  have m2 : (e : Int) ≤ (C : Int) := by omega
  have m3 : (0 : Int) ≤ (s : Int) := by omega
  have m8 : ¬ C = s := by omega
  have HA : Hid _ := hA
  clear hA
  go_wp2_with fail
  go_quiet (fail)
  go_wp2_with fail
  go_ret2
  exact ⟨rfl, HA.out.same (by exact ⟨rfl, rfl, rfl, rfl⟩)⟩

set_option maxRecDepth 100000 in
theorem value_minus {T : List Int} {d C k : Nat} {w : World} {o s e : Nat} (dep : Int) (hd0 : 0 ≤ dep) (hd1 : dep ≤ 9000) (hS : Sc T d C k w o) (hsp : Sp T o s) (hx : T.getD s 0 = 45) (hse : s < e) (heL : e ≤ T.length)
    (hsub : ∀ W, Sc T d C k W s → Calls Ybaf.prog 50 #[.pointer (some ⟨k, 0, none⟩)] W fun x w' => x = .returned .nilIface ∧ At T d C k W w' e) : Val T d C k dep w s e := by
  have hl := hS.hl
  have hc := hS.hc
  have hw : IntKind.i64.wrap (dep + 1) = dep + 1 := wrap_small (by omega) (by omega)
  have HSUB : Hid _ := hsub
  have sl := hsp.lt
  clear hsub
  unfold Val
  go_enter Ybaf.func30, Ybaf.ntmps30
  go_wp2_with fail
  refine Calls.mono (space_to s hS hsp.le (by omega) hsp.sp (fun _ => hsp.no)) ?_
  rintro x w1 ⟨rfl, hA⟩
  have c1 := hA.sc.c1
  go_wp2_with fail
  clear c1
  refine Calls.mono (at_at 123 false hA.sc sl (by rw [hx]; rfl)) ?_
  rintro x w2 ⟨rfl, hB⟩
  replace hA := hA.trans hB
  clear hB
  go_wp2_with fail
  refine Calls.mono (at_at 91 false hA.sc sl (by rw [hx]; rfl)) ?_
  rintro x w3 ⟨rfl, hB⟩
  replace hA := hA.trans hB
  clear hB
  go_wp2_with fail
  refine Calls.mono (at_at 34 false hA.sc sl (by rw [hx]; rfl)) ?_
  rintro x w4 ⟨rfl, hB⟩
  replace hA := hA.trans hB
  clear hB
  go_wp2_with fail
  refine Calls.mono (at_at 116 false hA.sc sl (by rw [hx]; rfl)) ?_
  rintro x w5 ⟨rfl, hB⟩
  replace hA := hA.trans hB
  clear hB
  go_wp2_with fail
  refine Calls.mono (at_at 102 false hA.sc sl (by rw [hx]; rfl)) ?_
  rintro x w6 ⟨rfl, hB⟩
  replace hA := hA.trans hB
  clear hB
  go_wp2_with fail
  refine Calls.mono (at_at 110 false hA.sc sl (by rw [hx]; rfl)) ?_
  rintro x w7 ⟨rfl, hB⟩
  replace hA := hA.trans hB
  clear hB
  go_wp2_with fail
  have HH : Hid (∀ W, W.heap = w7.heap → Sc T d C k W s) := fun W hW => hA.sc.heap hW
  have hat := fun W (hW : Sc T d C k W s) => at_q (T := T) (d := d) (C := C) (k := k) (w := W) (o := s) 45 true hW sl (by rw [hx]; rfl)
  have HAT : Hid _ := hat
  clear hat
  go_quiet (first | (go_at_call 18; refine Calls.quiet_of (HAT.out _ (HH.out _ rfl))))
  go_wp2_with fail
  refine Calls.mono (HSUB.out _ (hA.sc.heap (by rfl))) ?_
  rintro x w9 ⟨rfl, hB⟩
  have hA : At T d C k w w9 e := (hA.same (by exact ⟨rfl, rfl, rfl, rfl⟩)).trans hB
  clear hB
  have c0 := hA.sc.c0
  have c1 := hA.sc.c1
  have m1 : (s : Int) ≤ (e : Int) := by omega
  have m2 : (e : Int) ≤ (C : Int) := by omega
  have m3 : (0 : Int) ≤ (s : Int) := by omega
  have m8 : ¬ C = s := by omega
  have HA : Hid _ := hA
  clear hA
  go_wp2_with fail
  go_quiet (fail)
  go_wp2_with fail
  go_ret2
  exact ⟨rfl, HA.out.same (by exact ⟨rfl, rfl, rfl, rfl⟩)⟩

set_option maxRecDepth 100000 in
theorem value_digit {T : List Int} {d C k : Nat} {w : World} {o s e : Nat} (dep : Int) (hd0 : 0 ≤ dep) (hd1 : dep ≤ 9000) (hS : Sc T d C k w o) (hsp : Sp T o s) (c : Int) (hx : T.getD s 0 = c) (hdig : isDig c = true) (hse : s < e) (heL : e ≤ T.length)
    (hsub : ∀ W, Sc T d C k W s → Calls Ybaf.prog 50 #[.pointer (some ⟨k, 0, none⟩)] W fun x w' => x = .returned .nilIface ∧ At T d C k W w' e) : Val T d C k dep w s e := by
  have hl := hS.hl
  have hc := hS.hc
  have hw : IntKind.i64.wrap (dep + 1) = dep + 1 := wrap_small (by omega) (by omega)
  have HSUB : Hid _ := hsub
  have sl := hsp.lt
  clear hsub
  unfold Val
  go_enter Ybaf.func30, Ybaf.ntmps30
  go_wp2_with fail
  refine Calls.mono (space_to s hS hsp.le (by omega) hsp.sp (fun _ => hsp.no)) ?_
  rintro x w1 ⟨rfl, hA⟩
  have c1 := hA.sc.c1
  go_wp2_with fail
  clear c1
  have hne : c ≠ 123 ∧ c ≠ 91 ∧ c ≠ 34 ∧ c ≠ 116 ∧ c ≠ 102 ∧ c ≠ 110 ∧ c ≠ 45 := by simp [isDig] at hdig; omega
  obtain ⟨n0, n1, n2, n3, n4, n5, n6⟩ := hne
  refine Calls.mono (at_at 123 false hA.sc sl (by rw [hx]; exact beq_of_ne n0)) ?_
  rintro x w2 ⟨rfl, hB⟩
  replace hA := hA.trans hB
  clear hB
  go_wp2_with fail
  refine Calls.mono (at_at 91 false hA.sc sl (by rw [hx]; exact beq_of_ne n1)) ?_
  rintro x w3 ⟨rfl, hB⟩
  replace hA := hA.trans hB
  clear hB
  go_wp2_with fail
  refine Calls.mono (at_at 34 false hA.sc sl (by rw [hx]; exact beq_of_ne n2)) ?_
  rintro x w4 ⟨rfl, hB⟩
  replace hA := hA.trans hB
  clear hB
  go_wp2_with fail
  refine Calls.mono (at_at 116 false hA.sc sl (by rw [hx]; exact beq_of_ne n3)) ?_
  rintro x w5 ⟨rfl, hB⟩
  replace hA := hA.trans hB
  clear hB
  go_wp2_with fail
  refine Calls.mono (at_at 102 false hA.sc sl (by rw [hx]; exact beq_of_ne n4)) ?_
  rintro x w6 ⟨rfl, hB⟩
  replace hA := hA.trans hB
  clear hB
  go_wp2_with fail
  refine Calls.mono (at_at 110 false hA.sc sl (by rw [hx]; exact beq_of_ne n5)) ?_
  rintro x w7 ⟨rfl, hB⟩
  replace hA := hA.trans hB
  clear hB
  go_wp2_with fail
  have HH : Hid (∀ W, W.heap = w7.heap → Sc T d C k W s) := fun W hW => hA.sc.heap hW
  have hat := fun W (hW : Sc T d C k W s) => at_at (T := T) (d := d) (C := C) (k := k) (w := W) (o := s) 45 false hW sl (by rw [hx]; exact beq_of_ne n6)
  have HAT : Hid _ := hat
  clear hat
  have hdg := isDigit_of c true
  have g1 : (s : Int) < (T.length : Int) := by omega
  have g2 : (0 : Int) ≤ (s : Int) := by omega
  have HC : Hid (∀ W, Sc T d C k W s → W.cell? ⟨d, s, none⟩ = some (.int .u8 c)) := fun W hW => by rw [hW.t s sl, hx]
  have c0 := hA.sc.c0
  have c1 := hA.sc.c1
  have ct := HC.out _ hA.sc
  go_region_held3 (fun W => W.cell? ⟨k, 0, none⟩ = some (.slice (some ⟨d, 0, none⟩) T.length C) ∧ W.cell? ⟨k, 1, none⟩ = some (.int .i64 s) ∧ W.cell? ⟨d, s, none⟩ = some (.int .u8 c)) (go_keep) (first | (go_at_call 18; refine Calls.mono (HAT.out _ (HH.out _ rfl)) ?_; rintro x1 w1' ⟨rfl, hB⟩; have u0 := hB.sc.c0; have u1 := hB.sc.c1; have u2 := HC.out _ hB.sc) | (go_at_call 49; refine (hdg _ hdig).mono ?_; rintro x2 w2' ⟨rfl, rfl⟩))
  clear c0 c1 ct
  have hA := (hA.same (by exact ⟨rfl, rfl, rfl, rfl⟩)).trans hB
  go_wp2_with fail
  refine Calls.mono (HSUB.out _ (hA.sc.heap (by rfl))) ?_
  rintro x w9 ⟨rfl, hB⟩
  have hA : At T d C k w w9 e := (hA.same (by exact ⟨rfl, rfl, rfl, rfl⟩)).trans hB
  clear hB
  have c0 := hA.sc.c0
  have c1 := hA.sc.c1
  have m1 : (s : Int) ≤ (e : Int) := by omega
  have m2 : (e : Int) ≤ (C : Int) := by omega
  have m3 : (0 : Int) ≤ (s : Int) := by omega
  have m8 : ¬ C = s := by omega
  have HA : Hid _ := hA
  clear hA
  go_wp2_with fail
  go_quiet (fail)
  go_wp2_with fail
  go_ret2
  exact ⟨rfl, HA.out.same (by exact ⟨rfl, rfl, rfl, rfl⟩)⟩

end Go.Proofs.YbulkdfkFmt
