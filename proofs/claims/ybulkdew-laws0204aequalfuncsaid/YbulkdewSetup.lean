import Derived.Test.YbulkdewSymbols
import Derived.Deep.OwnRows
import Derived.Lib.SliceRun
import Derived.WideShapes
namespace Go.Proofs.Ybulkdew
open Go.RowKit
set_option linter.unusedVariables false

theorem Yba.info3 : (Yba.prog.info? 3).map (fun i => (i.zero, i.size, i.bytes)) = some (some (.int .i64 0), 1, 8) := by kernel_rfl

theorem made_zero (n : Nat) : madeCells #[Value.int .i64 0] n = ((List.replicate n (0 : Int)).map (Value.int .i64)).toArray := by
  unfold madeCells
  apply Array.ext
  · simp
  · intro i h1 h2
    simp [Nat.mod_one]

theorem Rw.start (w : World) (L : Nat) (hL : L ≤ maxLen) : Rw w (w.alloc (.cells (madeCells #[.int .i64 0] L) 3)) w.heap.size w.heap.size L L (List.replicate L 0) := by
  refine ⟨⟨by simp, .inr ⟨w.heap.size, L, _, rfl, Nat.le_refl _, heap_alloc_new w _, Nat.le_refl _, hL, by rw [made_zero]; simp, ?_⟩⟩, World.grownBy_alloc w _ _⟩
  rw [made_zero]
  simp

theorem Bd.zeros (L : Nat) {lo hi : Int} (h : lo ≤ 0) (h' : 0 ≤ hi) : Bd lo hi (List.replicate L 0) := fun i => by
  rw [List.getD_eq_getElem?_getD, List.getElem?_replicate]
  split <;> simp <;> omega

/-- What the set-up hands on. -/
structure Setup (len0 len1 aLo bLo n m d L : Nat) (R : List Int) : Prop where
  a : aLo + n ≤ len0
  b : bLo + m ≤ len1
  d : d ≤ n + m + 1
  l : L = n + m + 3
  r : Bd (-1) (n + 2) R

set_option maxHeartbeats 1000000 in
set_option maxRecDepth 100000 in
theorem setup (a0 a1 : Option Addr) (len0 cap0 len1 cap1 : Nat) (x2 x3 x4 x5 x6 : Int) (a7 : Option Addr) (len7 cap7 : Nat) (z7 : List Int) (w : World)
    (h2 : 0 ≤ x2 ∧ x2 ≤ 65535) (h3 : 0 ≤ x3 ∧ x3 ≤ 65535) (h4 : 0 ≤ x4 ∧ x4 ≤ 65535) (h5 : 0 ≤ x5 ∧ x5 ≤ 65535) (h6 : 0 ≤ x6 ∧ x6 ≤ 65535)
    (v7 : View .u16 w a7 len7 z7) (w7 : ∀ j, 0 ≤ z7.getD j 0 ∧ z7.getD j 0 ≤ 65535) (hl0 : len0 ≤ 300) (hl1 : len1 ≤ 300) (hl7 : len7 ≤ 4096) :
    Calls Yba.prog 7 #[.slice a0 len0 cap0, .slice a1 len1 cap1, .int .u16 x2, .int .u16 x3, .int .u16 x4, .int .u16 x5, .int .u16 x6, .slice a7 len7 cap7] w
      fun e w' => ∃ (aLo bLo n m d L : Nat) (R : List Int), e = .returned (.tuple #[.int .i64 aLo, .int .i64 bLo, .int .i64 n, .int .i64 m, .int .i64 d, .slice (some ⟨w.heap.size, 0, none⟩) L L]) ∧ Setup len0 len1 aLo bLo n m d L R ∧ Rw w w' w.heap.size w.heap.size L L R := by
  obtain ⟨aLo, eA⟩ : ∃ k : Nat, x2 % ((len0 : Int) + 1) = k := ⟨(x2 % ((len0 : Int) + 1)).toNat, by have := Int.emod_nonneg x2 (show (len0 : Int) + 1 ≠ 0 by omega); omega⟩
  have bA := Int.emod_lt_of_pos x2 (show 0 < (len0 : Int) + 1 by omega)
  rw [eA] at bA
  obtain ⟨n, eN⟩ : ∃ k : Nat, x4 % ((len0 : Int) - aLo + 1) = k := ⟨(x4 % ((len0 : Int) - aLo + 1)).toNat, by have := Int.emod_nonneg x4 (show (len0 : Int) - aLo + 1 ≠ 0 by omega); omega⟩
  have bN := Int.emod_lt_of_pos x4 (show 0 < (len0 : Int) - aLo + 1 by omega)
  rw [eN] at bN
  obtain ⟨bLo, eB⟩ : ∃ k : Nat, x3 % ((len1 : Int) + 1) = k := ⟨(x3 % ((len1 : Int) + 1)).toNat, by have := Int.emod_nonneg x3 (show (len1 : Int) + 1 ≠ 0 by omega); omega⟩
  have bB := Int.emod_lt_of_pos x3 (show 0 < (len1 : Int) + 1 by omega)
  rw [eB] at bB
  obtain ⟨m, eM⟩ : ∃ k : Nat, x5 % ((len1 : Int) - bLo + 1) = k := ⟨(x5 % ((len1 : Int) - bLo + 1)).toNat, by have := Int.emod_nonneg x5 (show (len1 : Int) - bLo + 1 ≠ 0 by omega); omega⟩
  have bM := Int.emod_lt_of_pos x5 (show 0 < (len1 : Int) - bLo + 1 by omega)
  rw [eM] at bM
  obtain ⟨d, eD⟩ : ∃ k : Nat, x6 % ((n : Int) + m + 2) = k := ⟨(x6 % ((n : Int) + m + 2)).toNat, by have := Int.emod_nonneg x6 (show (n : Int) + m + 2 ≠ 0 by omega); omega⟩
  have bD := Int.emod_lt_of_pos x6 (show 0 < (n : Int) + m + 2 by omega)
  rw [eD] at bD
  obtain ⟨L, eL⟩ : ∃ k : Nat, (n : Int) + m + 3 = k := ⟨n + m + 3, by omega⟩
  have hmk := fun W => run_make_row' (P := Yba.prog) 22 3 (.int .i64 0) 8 Yba.underlying22 Yba.info3 rfl .i64 .i64 L (by omega) (by omega) W
  go_enter Yba.func7, Yba.ntmps7
  go_wp2_with fail
  rw [eA, eN, eB, eM, eD]
  have HL : Hid ((n : Int) + m + 3 = L) := eL
  have hLb : (L : Int) ≤ 603 := by omega
  have hLn : (n : Int) ≤ 300 := by omega
  have HS : Hid (aLo + n ≤ len0 ∧ bLo + m ≤ len1 ∧ d ≤ n + m + 1) := ⟨by omega, by omega, by omega⟩
  clear eA eN eB eM eD eL hmk bA bN bB bM bD h2 h3 h4 h5 h6
  go_loopg [22] L (fun gh s22 wr => ∃ (k : Nat) (R : List Int), k ≤ L ∧ L - k ≤ gh ∧ s22 = .int .i64 k ∧ Bd (-1) (n + 2) R ∧ Rw w wr w.heap.size w.heap.size L L R)
  case atStart => exact ⟨0, _, Nat.zero_le _, by omega, rfl, Bd.zeros L (by omega) (by omega), Rw.start w L (by unfold maxLen; omega)⟩
  case round =>
    obtain ⟨k, R, hk, hg, rfl, hb, hW⟩ := hrel
    by_cases hlt : k < L
    · have k1 := hW.cell k hlt
      have f1 := hW.frozen k
      have HB : Hid _ := hb
      clear hb
      by_cases h7 : 0 < len7
      · obtain ⟨b7, o7, rfl, hb7, hc7⟩ := v7.cells h7
        obtain ⟨j, hj⟩ : ∃ j : Nat, (k : Int) % (len7 : Int) = j := ⟨k % len7, by omega⟩
        have hj2 : j < len7 := by have := Nat.mod_lt k h7; omega
        have hj3 : (j : Int) < (len7 : Int) := by omega
        have g7 : wr.cell? ⟨b7, o7 + j, none⟩ = some (.int .u16 (z7.getD j 0)) := hW.gr.cell (hc7 j hj2) (by simp; omega)
        have bz := w7 j
        generalize z7.getD j 0 = z at g7 bz
        obtain ⟨v, hv⟩ : ∃ v : Int, z % ((n : Int) + 4) = v := ⟨_, rfl⟩
        have hv2 : 0 ≤ v ∧ v < (n : Int) + 4 := by subst hv; exact ⟨Int.emod_nonneg _ (by omega), Int.emod_lt_of_pos _ (by omega)⟩
        have hS := hW.set k (v - 1)
        have h7' : (0 : Int) < (len7 : Int) := by omega
        have h70 : ¬ (len7 : Int) = 0 := by omega
        have hn40 : ¬ (n : Int) + 4 = 0 := by omega
        clear hc7 v7 w7
        go_wp2_with fail
        go_roundg (L - (k + 1))
        case measure => omega
        case rel => exact ⟨k + 1, R.set k (v - 1), by omega, by omega, by go_num, Bd.set HB.out k (by omega) (by omega), hS⟩
      · obtain ⟨v, hv⟩ : ∃ v : Int, (k : Int) % ((n : Int) + 4) = v := ⟨_, rfl⟩
        have hv2 : 0 ≤ v ∧ v < (n : Int) + 4 := by subst hv; exact ⟨Int.emod_nonneg _ (by omega), Int.emod_lt_of_pos _ (by omega)⟩
        have hS := hW.set k (v - 1)
        have h7' : ¬ (0 : Int) < (len7 : Int) := by omega
        have hn40 : ¬ (n : Int) + 4 = 0 := by omega
        clear v7 w7
        go_wp2_with fail
        go_roundg (L - (k + 1))
        case measure => omega
        case rel => exact ⟨k + 1, R.set k (v - 1), by omega, by omega, by go_num, Bd.set HB.out k (by omega) (by omega), hS⟩
    · go_wp2_with fail
      refine bodyPost_ret (v := .tuple #[.int .i64 aLo, .int .i64 bLo, .int .i64 n, .int .i64 m, .int .i64 d, .slice (some ⟨w.heap.size, 0, none⟩) L L]) (by simp [results, Yba.results7, go_sem]) rfl ⟨aLo, bLo, n, m, d, L, R, rfl, ⟨HS.out.1, HS.out.2.1, HS.out.2.2, by have := HL.out; omega, hb⟩, hW⟩

set_option maxHeartbeats 2000000 in
set_option maxRecDepth 100000 in
/-- slices.Clone at []int. -/
theorem clone_any (a : Option Addr) (len cap : Nat) (zs : List Int) (w : World) (hV : View .i64 w a len zs) (hlen : len ≤ 1000) (hnil : a = none → len = 0) :
    Calls Yba.prog 9 #[.slice a len cap] w fun e w' => ∃ v', e = .returned v' ∧ w'.ownsRow w.heap.size 3 1 v' len (zs.map (Value.int .i64)) ∧ (0 < len → v' ≠ .slice none 0 0) ∧ Below w.heap.size w w' := by
  obtain ⟨i0, hi, hz0, hz1, hz2⟩ := info_parts Yba.info3
  have q22 : ∀ (w : World) (a : Option Addr) (n c n' c' : Nat), (binOp .eql 22 (.slice a n c) (.slice none n' c')).run Yba.prog w = .ok (.bool a.isNone) w := fun w a n c n' c' => Lib.run_eql_slice_nil w _ _ a n c n' c' Yba.underlying22
  have hs := hV.size
  cases a with
  | none =>
    have h0 := hnil rfl
    subst h0
    have hz : zs = [] := List.eq_nil_of_length_eq_zero hs
    subst hz
    clear hnil hs
    go_enter Yba.func9, Yba.ntmps9
    go_wp2
    go_ret
    exact ⟨_, rfl, World.ownsRow_nil _ _ _ _, fun h => absurd h (Nat.lt_irrefl _), Below.refl _ _⟩
  | some x =>
    have hb : ∀ j u, (zs.map (Value.int .i64))[j]? = some u → w.cell? (x.add j) = some u := fun j u hj => by
      rw [List.getElem?_map] at hj
      have hjl : j < zs.length := by
        cases hz : zs[j]? with
        | none => rw [hz] at hj; cases hj
        | some z => exact (List.getElem?_eq_some_iff.1 hz).1
      obtain ⟨b, off, e, _, hc⟩ := hV.cells (by omega)
      cases e
      rw [Go.WideShapes.add_plain, hc j (by omega), ← hj, List.getD_eq_getElem?_getD, List.getElem?_eq_getElem hjl]
      rfl
    have HB : Hid _ := hb
    have HS : Hid (zs.length = len) := hs
    clear hb hnil hs hV
    go_enter Yba.func9, Yba.ntmps9
    go_wp2_with (at_builtin; refine wpList_append_own _ rfl _ _ 22 rfl w.heap.size 3 i0 (.int .i64 0) 1 8 Yba.underlying22 hi hz0 hz1 hz2 rfl (by decide) _ _ _ rfl (World.ownsRow_made w #[] 0 (Nat.le_refl _) (Nat.zero_le _) rfl) x len cap (zs.map (Value.int .i64)) rfl ?c0 ?c1 ?c2 ?c3 ?c4 ?c5 ?_)
    case c0 => have := HS.out; simp; omega
    case c1 =>
      intro j u hj
      exact Lib.cell?_alloc_some _ (HB.out j u hj)
    case c2 => intro u hu; obtain ⟨z, _, rfl⟩ := List.mem_map.1 hu; rfl
    case c3 => unfold maxLen; omega
    case c4 => omega
    case c5 => simp
    intro v' w1 hown hgrow hnil
    go_wp2
    go_ret
    refine ⟨v', rfl, by simpa using hown, fun _ => ?_, ?_⟩
    · first | exact hnil | (intro e; exact absurd (hnil.1 e).1 (by simp))
    · exact ((Below.refl _ w).alloc (Nat.le_refl _) _).grown hgrow (by simp) (by intro k hk; simp [Value.ownBlock] at hk; omega)

set_option maxHeartbeats 1000000 in
/-- slices.Equal at []int: two rows that hold the same numbers. -/
theorem equal_same (a1 a2 : Option Addr) (n c1 c2 : Nat) (zs : List Int) (w : World) (hn : n ≤ 1000) (v1 : View .i64 w a1 n zs) (v2 : View .i64 w a2 n zs) :
    Calls Yba.prog 11 #[.slice a1 n c1, .slice a2 n c2] w fun e w' => e = .returned (.bool true) ∧ ∃ q, w' = w.drewN q := by
  go_enter Yba.func11, Yba.ntmps11
  go_wp2
  go_loopg [13] n (fun g s13 wr => ∃ k q : Nat, k ≤ n ∧ n - k ≤ g ∧ s13 = .int .i64 k ∧ wr = w.drewN q)
  case atStart => exact ⟨0, 0, Nat.zero_le _, by omega, rfl, rfl⟩
  case round =>
    obtain ⟨k, q, hk, hg, rfl, rfl⟩ := hrel
    by_cases hlt : k < n
    · obtain ⟨b1, o1, rfl, _, hc1⟩ := v1.cells (by omega)
      obtain ⟨b2, o2, rfl, _, hc2⟩ := v2.cells (by omega)
      have g1 := hc1 k hlt
      have g2 := hc2 k hlt
      generalize zs.getD k 0 = z at g1 g2
      clear hc1 hc2 v1 v2
      go_wp2_with fail
      go_quiet (fail)
      go_wp2
      go_roundg (n - (k + 1))
      case measure => omega
      case rel => exact ⟨k + 1, _, by omega, by omega, by go_num, rfl⟩
    · go_wp2
      go_ret
      exact ⟨rfl, q, rfl⟩
end Go.Proofs.Ybulkdew
