import Derived.Test.YbulkdfkFmtSame
import Derived.Deep.RegionHeldLaw
namespace Go.Proofs.YbulkdfkFmt
open Go.RowKit
set_option linter.unusedVariables false

set_option maxRecDepth 100000 in
theorem law_long (a0 : Option Addr) (n0 c0 : Nat) (a1 : Option Addr) (n1 c1 : Nat) (tr : Int) (w : World) (h : 1024 < n0 ∨ 1024 < n1) :
    Calls Ybaf.prog 5 #[.slice a0 n0 c0, .slice a1 n1 c1, .int .u8 tr] w fun x w' => x = .returned (.bool true) ∧ Below w.heap.size w w' := by
  by_cases h0 : 1024 < n0
  · have g0 : (n0 : Int) > 1024 := by omega
    go_enter Ybaf.func5, Ybaf.ntmps5
    go_wp2_with fail
    go_ret
    exact ⟨rfl, Below.refl _ _⟩
  · have g0 : ¬ (n0 : Int) > 1024 := by omega
    have g1 : (n1 : Int) > 1024 := by omega
    go_enter Ybaf.func5, Ybaf.ntmps5
    go_wp2_with fail
    go_ret
    exact ⟨rfl, Below.refl _ _⟩

theorem buf_start (w : World) : Buf w.heap.size (w.alloc (.cells #[.int .u8 91] 5)) (.slice (some ⟨w.heap.size, 0, none⟩) 1 1) [91] :=
  ⟨rfl, .inr ⟨w.heap.size, 1, #[.int .u8 91], rfl, Nat.le_refl _, heap_alloc_new w _, Nat.le_refl _, by unfold maxLen; omega, rfl, rfl⟩⟩

/-- One more string: what the walk's law asks and gives. -/
theorem Buf.row_ge {B : Nat} {w : World} {v : Value} {T : List Int} (h : Buf B w v T) : ∀ j, v.ownBlock = some j → B ≤ j := by
  intro j hj
  rcases Nat.lt_or_ge j B with g | g
  · exact absurd hj.symm (owns_row_ge h j g)
  · exact g

theorem pick_lt (z : List Int) (i : Nat) (h : 0 ≤ z.getD i 0) : pick z i < 10 := by unfold pick; omega
theorem pick_eq (z : List Int) (i : Nat) (h : 0 ≤ z.getD i 0) : Int.tmod (z.getD i 0) 10 = (pick z i : Int) := by
  rw [Int.tmod_eq_emod_of_nonneg h]; unfold pick; omega

theorem neq_err (w : World) (a : Option Addr) : (binOp .neq 24 (.iface 81 (.pointer a)) .nilIface).run Ybaf.prog w = .ok (.bool true) w := by kernel_rfl
theorem eql_nil34 (w : World) : (binOp .eql 34 (.slice none 0 0) (.slice none 0 0)).run Ybaf.prog w = .ok (.bool true) w := by kernel_rfl
theorem neq_nil24 (w : World) : (binOp .neq 24 .nilIface .nilIface).run Ybaf.prog w = .ok (.bool false) w := by kernel_rfl

theorem keep_two {W : World} {a1 a2 : Addr} {v1 v2 : Value} {s : ByteArray} (h : W.cell? a1 = some v1 ∧ W.cell? a2 = some v2) : (Lib.bytesWorld W 5 s).cell? a1 = some v1 ∧ (Lib.bytesWorld W 5 s).cell? a2 = some v2 :=
  ⟨by rw [Lib.bytesWorld_old _ _ _ _ (lt_of_cell h.1)]; exact h.1, by rw [Lib.bytesWorld_old _ _ _ _ (lt_of_cell h.2)]; exact h.2⟩

theorem hide {p : Prop} (h : p) : Hid p := h

theorem seg_text {es sp : Nat → List Int} {n m : Nat} {T tail : List Int} (hT : T = pre es sp n n ++ (93 :: tail)) (hm : m < n) : Seg T (pre es sp n m).length (es m) := by
  obtain ⟨R, hR⟩ := pre_ext (es := es) (sp := sp) (n := n) (show m + 1 ≤ n by omega)
  exact Seg.of (R := sp (1 + 2 * m) ++ (if m + 1 < n then 44 :: sp (2 + 2 * m) else []) ++ R ++ 93 :: tail) (by rw [hT, hR, pre]; simp)

theorem got_at {w : World} {B g cap n d C : Nat} {es sp : Nat → List Int} {N : Nat} (h : w.ownsRow B 38 1 (.slice (some ⟨g, 0, none⟩) n cap) n (valsOf es sp N d C n)) (m : Nat) (hm : m < n) :
    w.cell? ⟨g, m, none⟩ = some (.slice (some ⟨d, (pre es sp N m).length, none⟩) (es m).length (C - (pre es sp N m).length)) := by
  rcases h.2 with ⟨h1, _⟩ | ⟨g', cap', cur, hv, hb, hg, h1, _, h3, h4⟩
  · cases h1
  · cases hv
    have h5 : (cur.toList.take (n * 1))[m]? = (valsOf es sp N d C n)[m]? := by rw [h4]
    rw [List.getElem?_take, if_pos (by omega)] at h5
    have := cell_of_block hg m
    rw [this, ← Array.getElem?_toList, h5]
    simp [valsOf, hm]

theorem conv_old {wN w3 : World} {T tail : List Int} {es sp : Nat → List Int} {n g cap : Nat} (hT : T = pre es sp n n ++ (93 :: tail)) (hes : ∀ m, es m = es m) (hc : ∀ i, i < T.length → wN.cell? ⟨g, i, none⟩ = some (.int .u8 (T.getD i 0))) (hg : g < wN.heap.size) (hB : Below wN.heap.size wN w3)
    (m : Nat) (hm : m < n) (W : World) (hW : Below w3.heap.size w3 W) :
    (convert 22 9 (.slice (some ⟨g, (pre es sp n m).length, none⟩) (es m).length (cap - (pre es sp n m).length))).run Ybaf.prog W = .ok (.string (strOfNums (es m))) W := by
  have hs := seg_text hT hm
  refine run_convert_bytes_arg W 22 5 Ybaf.underlying22 Ybaf.underlying5 g _ _ _ (es m) rfl (fun t ht => ?_) 9 Ybaf.underlying9
  have h1 := hs.1
  rw [hW.cell (by have := hB.size; show g < _; omega), hB.cell (by exact hg), hc _ (by omega), hs.2 t ht]

set_option maxHeartbeats 1000000 in
set_option maxRecDepth 100000 in
theorem law_short (a0 : Option Addr) (n0 c0 : Nat) (a1 : Option Addr) (n1 c1 : Nat) (z0 z1 : List Int) (tr : Int) (w : World) (s0 : Src w a0 n0 c0 z0) (s1 : Src w a1 n1 c1 z1) (h0 : n0 ≤ 1024) (h1 : n1 ≤ 1024) (t0 : 0 ≤ tr) (t1 : tr < 256) :
    Calls Ybaf.prog 5 #[.slice a0 n0 c0, .slice a1 n1 c1, .int .u8 tr] w fun x w' => x = .returned (.bool true) ∧ Below w.heap.size w w' := by
  have g0 : ¬ (n0 : Int) > 1024 := by omega
  have g1 : ¬ (n1 : Int) > 1024 := by omega
  have S0 : Hid (Src w a0 n0 c0 z0) := s0
  have S1 : Hid (Src w a1 n1 c1 z1) := s1
  clear s0 s1
  obtain ⟨i0, hi0, hz0', hz1', hz2'⟩ := info_parts info5
  go_enter Ybaf.func5, Ybaf.ntmps5
  go_wp2_with fail
  refine Calls.mono (bspace (B := w.heap.size) (w0 := w) (T := [91]) S1.out h1 ((Below.refl _ w).alloc (Nat.le_refl _) _) (buf_start w) (by simp) (by decide) 0 (by omega) 0 rfl) ?_
  rintro x w1 ⟨sv1, rfl, hb1, hB1⟩
  have HB1 : Hid (Below w.heap.size w w1) := ((Below.refl _ w).alloc (Nat.le_refl _) _).trans hB1
  have Hb1 := hide hb1
  clear hB1 hb1
  go_wp2_with fail
  go_loopg [7, 8, 9] n0 (fun gh s7 s8 s9 wr => ∃ i v : Nat, i ≤ n0 ∧ n0 - i ≤ gh ∧ s9 = .int .i64 i ∧ s8 = .int .i64 v ∧ v ≤ 5000 ∧ (i < n0 → v = 1 + 2 * i) ∧ Buf w.heap.size wr s7 (pre (fun i => elem (pick z0 i)) (spAt z1) n0 i) ∧ Below w.heap.size w wr)
  case atStart => exact ⟨0, 1, Nat.zero_le _, by omega, rfl, rfl, by omega, fun _ => rfl, Hb1.out, HB1.out⟩
  case round =>
    obtain ⟨i, v, hi, hg, rfl, rfl, hv, hvi, hb, hB⟩ := hrel
    have hpl := pre_len (es := fun i => elem (pick z0 i)) (sp := spAt z1) (n := n0) (fun i => (elem_len _).2) (fun i => spAt_len _ _) i
    by_cases hlt : i < n0
    · obtain ⟨y1, y2, y3⟩ := S0.out
      rcases y3 with y3 | ⟨b, o, rfl, hb0, hc⟩
      · omega
      obtain ⟨r1, r2⟩ := y2 i hlt
      have ct : wr.cell? ⟨b, o + i, none⟩ = some (.int .u8 (z0.getD i 0)) := by rw [hB.cell (by exact hb0)]; exact hc i hlt
      have e10 := pick_eq z0 i r1
      have l10 := pick_lt z0 i r1
      have hvi := hvi hlt
      subst hvi
      have Hb := hide hb
      have HB := hide hB
      have HP : Hid (pre (fun i => elem (pick z0 i)) (spAt z1) n0 (i + 1) = pre (fun i => elem (pick z0 i)) (spAt z1) n0 i ++ elem (pick z0 i) ++ spAt z1 (1 + 2 * i) ++ (if i + 1 < n0 then 44 :: spAt z1 (2 + 2 * i) else [])) := rfl
      have he := elem_len (pick z0 i)
      have hp1 := spAt_len z1 (1 + 2 * i)
      have m0 : (0 : Int) ≤ (i : Int) := by omega
      have m1 : (i : Int) < (n0 : Int) := by omega
      clear hb hB y1 y2 hc
      generalize z0.getD i 0 = x at *
      generalize hpk : pick z0 i = j at *
      generalize hpre : pre (fun i => elem (pick z0 i)) (spAt z1) n0 i = P at *
      have hs : (strOfNums (elem j)).size = (elem j).length := strOfNums_size _
      by_cases hl2 : i + 1 < n0
      · have q1 : (i : Int) + 1 < (n0 : Int) := by omega
        go_wp2_with fail
        refine Calls.mono (belem j l10 _ rfl wr) ?_
        rintro x1 w2 ⟨rfl, hw2⟩
        subst hw2
        go_wp2_with (at_builtin; refine Lib.wpList_append_own_string _ rfl _ _ 22 9 rfl w.heap.size 5 i0 Ybaf.underlying22 Ybaf.underlying9 hi0 hz0' hz1' hz2' _ _ _ rfl Hb.out _ rfl ?c1 ?c2 ?c3 ?_)
        case c1 => rw [hs]; unfold maxLen; omega
        case c2 => rw [hs]; omega
        case c3 => exact HB.out.size
        intro v1 w3 hown hgr _
        have hb3 : Buf w.heap.size w3 v1 (P ++ elem j) := Buf.app hown rfl (strCells_elem j)
        have hB3 : Below w.heap.size w w3 := HB.out.grown hgr HB.out.size (Buf.row_ge Hb.out)
        clear hown hgr
        have hz3 := hB3.size
        have HB3 := hide hB3
        have Hb3 := hide hb3
        clear hB3 hb3
        go_wp2_with fail
        refine Calls.mono (bspace (B := w.heap.size) (w0 := w) S1.out h1 HB3.out Hb3.out hz3 (by rw [List.length_append]; omega) (1 + 2 * i) (by omega) _ (by omega)) ?_
        rintro x1 w4 ⟨v4, rfl, hb4, hB4⟩
        have HB4 : Hid (Below w.heap.size w w4) := HB3.out.trans hB4
        have hP4l : (P ++ elem j ++ spAt z1 (1 + 2 * i)).length ≤ P.length + 15 := by simp only [List.length_append]; omega
        generalize hP4 : P ++ elem j ++ spAt z1 (1 + 2 * i) = P4 at hb4 hP4l
        have HP4 := hide hP4
        have Hb4 : Hid (Buf w.heap.size w4 v4 P4) := hb4
        clear hP4
        have hz4 := HB4.out.size
        clear hb4 hB4
        go_wp2_with (at_builtin; refine wpList_append_own _ rfl _ _ 22 rfl w.heap.size 5 i0 (.int .u8 0) 1 1 Ybaf.underlying22 hi0 hz0' hz1' hz2' rfl (by decide) _ _ _ rfl (World.ownsRow.alloc Hb4.out _) (Addr.mk w4.heap.size 0 none) 1 1 [.int .u8 44] rfl rfl (World.news_of_block (cs := #[.int .u8 44]) (t := 5) (fr := (0, 0)) (heap_alloc_new w4 _)) ?c2 ?c3 ?c4 ?c5 ?_)
        case c2 => intro u hu; simp at hu; subst hu; rfl
        case c3 => unfold maxLen; omega
        case c4 => omega
        case c5 => simp; omega
        intro v5 w5 hown hgr _
        have hb5 : Buf w.heap.size w5 v5 (P4 ++ [44]) := Buf.app hown rfl rfl
        have hB5 : Below w.heap.size w w5 := (HB4.out.alloc hz4 _).grown hgr (by simp; omega) (Buf.row_ge Hb4.out)
        clear hown hgr
        have hz5 := hB5.size
        have HB5 := hide hB5
        have Hb5 := hide hb5
        clear hB5 hb5
        go_wp2_with fail
        refine Calls.mono (bspace (B := w.heap.size) (w0 := w) S1.out h1 HB5.out Hb5.out hz5 (by simp only [List.length_append, List.length_cons, List.length_nil]; omega) (2 + 2 * i) (by omega) _ (by omega)) ?_
        rintro x1 w6 ⟨v6, rfl, hb6, hB6⟩
        have HB6 : Hid (Below w.heap.size w w6) := HB5.out.trans hB6
        have Hb6 := hide hb6
        clear hb6 hB6
        go_wp2_with fail
        go_roundg (n0 - (i + 1))
        case measure => omega
        case rel =>
          refine ⟨i + 1, 1 + 2 * (i + 1), by omega, by omega, by go_num, by go_num, by omega, fun _ => rfl, ?_, HB6.out⟩
          rw [HP.out, if_pos hl2, HP4.out]
          have := Hb6.out
          rwa [List.append_assoc _ [44]] at this
      · have q1 : ¬ (i : Int) + 1 < (n0 : Int) := by omega
        go_wp2_with fail
        refine Calls.mono (belem j l10 _ rfl wr) ?_
        rintro x1 w2 ⟨rfl, hw2⟩
        subst hw2
        go_wp2_with (at_builtin; refine Lib.wpList_append_own_string _ rfl _ _ 22 9 rfl w.heap.size 5 i0 Ybaf.underlying22 Ybaf.underlying9 hi0 hz0' hz1' hz2' _ _ _ rfl Hb.out _ rfl ?c1 ?c2 ?c3 ?_)
        case c1 => rw [hs]; unfold maxLen; omega
        case c2 => rw [hs]; omega
        case c3 => exact HB.out.size
        intro v1 w3 hown hgr _
        have hb3 : Buf w.heap.size w3 v1 (P ++ elem j) := Buf.app hown rfl (strCells_elem j)
        have hB3 : Below w.heap.size w w3 := HB.out.grown hgr HB.out.size (Buf.row_ge Hb.out)
        clear hown hgr
        have hz3 := hB3.size
        have HB3 := hide hB3
        have Hb3 := hide hb3
        clear hB3 hb3
        go_wp2_with fail
        refine Calls.mono (bspace (B := w.heap.size) (w0 := w) S1.out h1 HB3.out Hb3.out hz3 (by rw [List.length_append]; omega) (1 + 2 * i) (by omega) _ (by omega)) ?_
        rintro x1 w4 ⟨v4, rfl, hb4, hB4⟩
        have HB4 : Hid (Below w.heap.size w w4) := HB3.out.trans hB4
        have hP4l : (P ++ elem j ++ spAt z1 (1 + 2 * i)).length ≤ P.length + 15 := by simp only [List.length_append]; omega
        generalize hP4 : P ++ elem j ++ spAt z1 (1 + 2 * i) = P4 at hb4 hP4l
        have HP4 := hide hP4
        have Hb4 : Hid (Buf w.heap.size w4 v4 P4) := hb4
        clear hP4
        have hz4 := HB4.out.size
        clear hb4 hB4
        go_wp2_with fail
        go_roundg (n0 - (i + 1))
        case measure => omega
        case rel =>
          refine ⟨i + 1, 2 + 2 * i, by omega, by omega, by go_num, by go_num, by omega, fun h => by omega, ?_, HB4.out⟩
          rw [HP.out, if_neg hl2, List.append_nil, HP4.out]
          exact Hb4.out
    · obtain rfl : i = n0 := by omega
      have hpp := pre_len (es := fun i => elem (pick z0 i)) (sp := spAt z1) (n := i) (fun i => (elem_len _).2) (fun i => spAt_len _ _) i
      have hLT := fun (T tail : List Int) (d C : Nat) (hT : T = pre (fun i => elem (pick z0 i)) (spAt z1) i i ++ (93 :: tail)) => laid_text z1 i h0 d C T tail (fun i => elem (pick z0 i)) (fun i => ⟨_, rfl⟩) hT
      have HLT := hide hLT
      have Hb := hide hb
      have HB := hide hB
      have hzr := hB.size
      have r3 : Int.tmod tr 3 = tr % 3 := Int.tmod_eq_emod_of_nonneg t0
      clear hb hB hLT hvi
      have h3 : tr % 3 = 0 ∨ tr % 3 = 1 ∨ tr % 3 = 2 := by omega
      rcases h3 with h3 | h3 | h3
      · go_wp2_with (at_builtin; refine wpList_append_own _ rfl _ _ 22 rfl w.heap.size 5 i0 (.int .u8 0) 1 1 Ybaf.underlying22 hi0 hz0' hz1' hz2' rfl (by decide) _ _ _ rfl (World.ownsRow.alloc Hb.out _) (Addr.mk wr.heap.size 0 none) 1 1 [.int .u8 93] rfl rfl (World.news_of_block (cs := #[.int .u8 93]) (t := 5) (fr := (0, 0)) (heap_alloc_new wr _)) ?c2 ?c3 ?c4 ?c5 ?_)
        case c2 => intro u hu; simp at hu; subst hu; rfl
        case c3 => unfold maxLen; omega
        case c4 => omega
        case c5 => simp; omega
        intro v5 w5 hown hgr _
        have hb5 : Buf w.heap.size w5 v5 (pre (fun i => elem (pick z0 i)) (spAt z1) i i ++ [93]) := Buf.app hown rfl rfl
        have hB5 : Below w.heap.size w w5 := (HB.out.alloc hzr _).grown hgr (by simp; omega) (Buf.row_ge Hb.out)
        clear hown hgr
        obtain ⟨T, hT⟩ : ∃ T, T = pre (fun i => elem (pick z0 i)) (spAt z1) i i ++ (93 :: []) := ⟨_, rfl⟩
        rw [← hT] at hb5
        have hTl : T.length = (pre (fun i => elem (pick z0 i)) (spAt z1) i i).length + 1 := by rw [hT]; simp
        obtain ⟨g, cap, rfl, hgB, hgl, hcap, hcells⟩ := hb5.opened (by omega)
        have HT : Hid (T = pre (fun i => elem (pick z0 i)) (spAt z1) i i ++ (93 :: [])) := hT
        have hlist := list_ok (T := T) (d := g) (C := cap) (w := w5) (n := i) (f := (pre (fun i => elem (pick z0 i)) (spAt z1) i i).length + 1) (valsOf (fun i => elem (pick z0 i)) (spAt z1) i g cap) hcells hgl hcap (by omega) rfl (HLT.out T [] g cap hT) (by omega) (fun t h1 h2 => by omega)
        have HL := hide hlist
        have HCE := hide hcells
        have HBN : Hid (Below w.heap.size w w5) := hB5
        have hzN := hB5.size
        clear hlist hcells hT hTl hB5
        go_wp2_with fail
        refine Calls.mono HL.out ?_
        rintro x3 w3 ⟨sv, rfl, hB3, hown⟩
        have HB3 : Hid (Below w5.heap.size w5 w3) := hB3
        have HBW : Hid (Below w.heap.size w w3) := HBN.out.trans (hB3.mono hzN)
        have hz3 := HBW.out.size
        clear hB3
        have hcase := hown.2
        rcases hcase with ⟨rfl, hn0⟩ | ⟨g2, cap2, cur2, rfl, _⟩
        · subst hn0
          clear hown
          go_wp2_with fail
          go_loopg [13] 0 (fun gh s13 wr => s13 = .int .i64 0 ∧ Below w3.heap.size w3 wr)
          case atStart => exact ⟨rfl, Below.refl _ _⟩
          case round =>
            obtain ⟨rfl, hBr⟩ := hrel
            have HBr := hide hBr
            clear hBr
            go_wp2_with fail
            go_ret
            exact ⟨rfl, HBW.out.trans (HBr.out.mono hz3)⟩
        · have HO := hide hown
          clear hown
          go_wp2_with fail
          go_loopg [13] i (fun gh s13 wr => ∃ m : Nat, m ≤ i ∧ i - m ≤ gh ∧ s13 = .int .i64 m ∧ Below w3.heap.size w3 wr)
          case atStart => exact ⟨0, Nat.zero_le _, by omega, rfl, Below.refl _ _⟩
          case round =>
            obtain ⟨m, hm, hgm, rfl, hBr⟩ := hrel
            have HBr := hide hBr
            by_cases hlt2 : m < i
            · obtain ⟨y1, y2, y3⟩ := S0.out
              rcases y3 with y3 | ⟨b, o, rfl, hb0, hc⟩
              · omega
              obtain ⟨r1, r2⟩ := y2 m hlt2
              have x1 := got_at HO.out m hlt2
              have hx1 := lt_of_cell x1
              have x2 : wr.cell? ⟨g2, m, none⟩ = _ := (hBr.cell (by exact hx1)).trans x1
              have ct : wr.cell? ⟨b, o + m, none⟩ = some (.int .u8 (z0.getD m 0)) := by rw [hBr.cell (by show b < _; omega), HBW.out.cell (by exact hb0)]; exact hc m hlt2
              have e10 := pick_eq z0 m r1
              have l10 := pick_lt z0 m r1
              have hcv : ∀ W, Below w3.heap.size w3 W → (convert 22 9 (.slice (some ⟨g, (pre (fun i => elem (pick z0 i)) (spAt z1) i m).length, none⟩) (elem (pick z0 m)).length (cap - (pre (fun i => elem (pick z0 i)) (spAt z1) i m).length))).run Ybaf.prog W = .ok (.string (strOfNums (elem (pick z0 m)))) W := fun W hW => conv_old (cap := cap) HT.out (fun _ => rfl) HCE.out hgl HB3.out m hlt2 W hW
              have HCV := hide hcv
              have hbe := belem (pick z0 m) l10 _ rfl
              have HBE := hide hbe
              have m0 : (0 : Int) ≤ (m : Int) := by omega
              have m1 : (m : Int) < (i : Int) := by omega
              have hmade := conv_made (strOfNums (elem (pick z0 m)))
              have hLS : LS w3 ⟨g2, m, none⟩ ⟨b, o + m, none⟩ (.slice (some ⟨g, (pre (fun i => elem (pick z0 i)) (spAt z1) i m).length, none⟩) (elem (pick z0 m)).length (cap - (pre (fun i => elem (pick z0 i)) (spAt z1) i m).length)) (.int .u8 (z0.getD m 0)) wr := ⟨x2, ct, hBr⟩
              have HLS := hide hLS
              clear hcv hbe y1 y2 hc hBr x1 hLS x2 ct
              generalize z0.getD m 0 = x at *
              generalize hpk : pick z0 m = j at *
              generalize (pre (fun i => elem (pick z0 i)) (spAt z1) i m).length = q at *
              generalize (elem j).length = lj at *
              go_wp2_with fail
              have w1c : wr.cell? ⟨g2, m, none⟩ = some (.slice (some ⟨g, q, none⟩) lj (cap - q)) := HLS.out.1
              have w2c : wr.cell? ⟨b, o + m, none⟩ = some (.int .u8 x) := HLS.out.2.1
              have hwx : IntKind.i64.wrap x = x := wrap_small (by omega) (by omega)
              go_region_held_law (fun W => W.cell? ⟨g2, m, none⟩ = some (.slice (some ⟨g, q, none⟩) lj (cap - q)) ∧ W.cell? ⟨b, o + m, none⟩ = some (.int .u8 x)) (first | go_keep | (rename _ ∧ _ => hh; exact keep_two hh)) (first | (go_at_call 10; refine Calls.mono (HBE.out _) ?_; rintro x4 w4 ⟨rfl, rfl⟩) | (go_at_call 12; refine Calls.mono (bytes_same _ _ _ _ _ _ _ _ (HCV.out _ (bytes_below _ HBr.out.drew HBr.out.size)) (conv_new j _ wr.drew _ (by rfl))) ?_; rintro x5 w5' ⟨rfl, rfl⟩))
              go_wp2_with fail
              go_roundg (i - (m + 1))
              case measure => omega
              case rel => exact ⟨m + 1, by omega, by omega, by go_num, bytes_below _ HBr.out.drew HBr.out.size⟩
            · go_wp2_with fail
              go_ret
              exact ⟨rfl, HBW.out.trans (HBr.out.mono hz3)⟩
      · go_wp2_with (at_builtin; refine wpList_append_own _ rfl _ _ 22 rfl w.heap.size 5 i0 (.int .u8 0) 1 1 Ybaf.underlying22 hi0 hz0' hz1' hz2' rfl (by decide) _ _ _ rfl (World.ownsRow.alloc Hb.out _) (Addr.mk wr.heap.size 0 none) 1 1 [.int .u8 93] rfl rfl (World.news_of_block (cs := #[.int .u8 93]) (t := 5) (fr := (0, 0)) (heap_alloc_new wr _)) ?c2 ?c3 ?c4 ?c5 ?_)
        case c2 => intro u hu; simp at hu; subst hu; rfl
        case c3 => unfold maxLen; omega
        case c4 => omega
        case c5 => simp; omega
        intro v5 w5 hown hgr _
        have hb5 : Buf w.heap.size w5 v5 (pre (fun i => elem (pick z0 i)) (spAt z1) i i ++ [93]) := Buf.app hown rfl rfl
        have hB5 : Below w.heap.size w w5 := (HB.out.alloc hzr _).grown hgr (by simp; omega) (Buf.row_ge Hb.out)
        clear hown hgr
        have hz5 := hB5.size
        have hP5l : (pre (fun i => elem (pick z0 i)) (spAt z1) i i ++ [93]).length ≤ 30000 := by simp only [List.length_append, List.length_cons, List.length_nil]; omega
        generalize hP5 : pre (fun i => elem (pick z0 i)) (spAt z1) i i ++ [93] = P5 at hb5 hP5l
        have HQ5 : Hid (Buf w.heap.size w5 v5 P5) := hb5
        have HR5 : Hid (Below w.heap.size w w5) := hB5
        have HP5 := hide hP5
        clear hb5 hB5 hP5
        go_wp2_with (at_builtin; refine wpList_append_own _ rfl _ _ 22 rfl w.heap.size 5 i0 (.int .u8 0) 1 1 Ybaf.underlying22 hi0 hz0' hz1' hz2' rfl (by decide) _ _ _ rfl (World.ownsRow.alloc HQ5.out _) (Addr.mk w5.heap.size 0 none) 2 2 [.int .u8 32, .int .u8 10] rfl rfl (World.news_of_block (cs := #[.int .u8 32, .int .u8 10]) (t := 5) (fr := (0, 0)) (heap_alloc_new w5 _)) ?c2 ?c3 ?c4 ?c5 ?_)
        case c2 => intro u hu; simp at hu; rcases hu with rfl | rfl <;> rfl
        case c3 => unfold maxLen; omega
        case c4 => omega
        case c5 => simp; omega
        intro v6 w6 hown hgr _
        have hb6 : Buf w.heap.size w6 v6 (P5 ++ [32, 10]) := Buf.app hown rfl rfl
        have hB6 : Below w.heap.size w w6 := (HR5.out.alloc hz5 _).grown hgr (by simp; omega) (Buf.row_ge HQ5.out)
        clear hown hgr
        obtain ⟨T, hT⟩ : ∃ T, T = pre (fun i => elem (pick z0 i)) (spAt z1) i i ++ (93 :: [32, 10]) := ⟨_, rfl⟩
        have e5 : P5 ++ [32, 10] = T := by rw [hT, ← HP5.out]; simp
        rw [e5] at hb6
        have hTl : T.length = (pre (fun i => elem (pick z0 i)) (spAt z1) i i).length + 3 := by rw [hT]; simp
        obtain ⟨g, cap, rfl, hgB, hgl, hcap, hcells⟩ := hb6.opened (by omega)
        have HT : Hid (T = pre (fun i => elem (pick z0 i)) (spAt z1) i i ++ (93 :: [32, 10])) := hT
        have hlist := list_ok (T := T) (d := g) (C := cap) (w := w6) (n := i) (f := (pre (fun i => elem (pick z0 i)) (spAt z1) i i).length + 1) (valsOf (fun i => elem (pick z0 i)) (spAt z1) i g cap) hcells hgl hcap (by omega) rfl (HLT.out T [32, 10] g cap hT) (by omega) (fun t h1 h2 => by
          have ht : t = (pre (fun i => elem (pick z0 i)) (spAt z1) i i).length + 1 ∨ t = (pre (fun i => elem (pick z0 i)) (spAt z1) i i).length + 2 := by omega
          have sg := Seg.of (T := T) (A := pre (fun i => elem (pick z0 i)) (spAt z1) i i ++ [93]) (l := [32, 10]) (R := []) (by rw [hT]; simp)
          have k0 := sg.2 0 (by decide)
          have k1 := sg.2 1 (by decide)
          rw [List.length_append] at k0 k1
          rcases ht with rfl | rfl
          · exact k0 ▸ rfl
          · exact k1 ▸ rfl)
        have HL := hide hlist
        have HCE := hide hcells
        have HBN : Hid (Below w.heap.size w w6) := hB6
        have hzN := hB6.size
        clear hlist hcells hT hTl hB6
        go_wp2_with fail
        refine Calls.mono HL.out ?_
        rintro x3 w3 ⟨sv, rfl, hB3, hown⟩
        have HB3 : Hid (Below w6.heap.size w6 w3) := hB3
        have HBW : Hid (Below w.heap.size w w3) := HBN.out.trans (hB3.mono hzN)
        have hz3 := HBW.out.size
        clear hB3
        have hcase := hown.2
        rcases hcase with ⟨rfl, hn0⟩ | ⟨g2, cap2, cur2, rfl, _⟩
        · subst hn0
          clear hown
          go_wp2_with fail
          go_loopg [13] 0 (fun gh s13 wr => s13 = .int .i64 0 ∧ Below w3.heap.size w3 wr)
          case atStart => exact ⟨rfl, Below.refl _ _⟩
          case round =>
            obtain ⟨rfl, hBr⟩ := hrel
            have HBr := hide hBr
            clear hBr
            go_wp2_with fail
            go_ret
            exact ⟨rfl, HBW.out.trans (HBr.out.mono hz3)⟩
        · have HO := hide hown
          clear hown
          go_wp2_with fail
          go_loopg [13] i (fun gh s13 wr => ∃ m : Nat, m ≤ i ∧ i - m ≤ gh ∧ s13 = .int .i64 m ∧ Below w3.heap.size w3 wr)
          case atStart => exact ⟨0, Nat.zero_le _, by omega, rfl, Below.refl _ _⟩
          case round =>
            obtain ⟨m, hm, hgm, rfl, hBr⟩ := hrel
            have HBr := hide hBr
            by_cases hlt2 : m < i
            · obtain ⟨y1, y2, y3⟩ := S0.out
              rcases y3 with y3 | ⟨b, o, rfl, hb0, hc⟩
              · omega
              obtain ⟨r1, r2⟩ := y2 m hlt2
              have x1 := got_at HO.out m hlt2
              have hx1 := lt_of_cell x1
              have x2 : wr.cell? ⟨g2, m, none⟩ = _ := (hBr.cell (by exact hx1)).trans x1
              have ct : wr.cell? ⟨b, o + m, none⟩ = some (.int .u8 (z0.getD m 0)) := by rw [hBr.cell (by show b < _; omega), HBW.out.cell (by exact hb0)]; exact hc m hlt2
              have e10 := pick_eq z0 m r1
              have l10 := pick_lt z0 m r1
              have hcv : ∀ W, Below w3.heap.size w3 W → (convert 22 9 (.slice (some ⟨g, (pre (fun i => elem (pick z0 i)) (spAt z1) i m).length, none⟩) (elem (pick z0 m)).length (cap - (pre (fun i => elem (pick z0 i)) (spAt z1) i m).length))).run Ybaf.prog W = .ok (.string (strOfNums (elem (pick z0 m)))) W := fun W hW => conv_old (cap := cap) HT.out (fun _ => rfl) HCE.out hgl HB3.out m hlt2 W hW
              have HCV := hide hcv
              have hbe := belem (pick z0 m) l10 _ rfl
              have HBE := hide hbe
              have m0 : (0 : Int) ≤ (m : Int) := by omega
              have m1 : (m : Int) < (i : Int) := by omega
              have hmade := conv_made (strOfNums (elem (pick z0 m)))
              have hLS : LS w3 ⟨g2, m, none⟩ ⟨b, o + m, none⟩ (.slice (some ⟨g, (pre (fun i => elem (pick z0 i)) (spAt z1) i m).length, none⟩) (elem (pick z0 m)).length (cap - (pre (fun i => elem (pick z0 i)) (spAt z1) i m).length)) (.int .u8 (z0.getD m 0)) wr := ⟨x2, ct, hBr⟩
              have HLS := hide hLS
              clear hcv hbe y1 y2 hc hBr x1 hLS x2 ct
              generalize z0.getD m 0 = x at *
              generalize hpk : pick z0 m = j at *
              generalize (pre (fun i => elem (pick z0 i)) (spAt z1) i m).length = q at *
              generalize (elem j).length = lj at *
              go_wp2_with fail
              have w1c : wr.cell? ⟨g2, m, none⟩ = some (.slice (some ⟨g, q, none⟩) lj (cap - q)) := HLS.out.1
              have w2c : wr.cell? ⟨b, o + m, none⟩ = some (.int .u8 x) := HLS.out.2.1
              have hwx : IntKind.i64.wrap x = x := wrap_small (by omega) (by omega)
              go_region_held_law (fun W => W.cell? ⟨g2, m, none⟩ = some (.slice (some ⟨g, q, none⟩) lj (cap - q)) ∧ W.cell? ⟨b, o + m, none⟩ = some (.int .u8 x)) (first | go_keep | (rename _ ∧ _ => hh; exact keep_two hh)) (first | (go_at_call 10; refine Calls.mono (HBE.out _) ?_; rintro x4 w4 ⟨rfl, rfl⟩) | (go_at_call 12; refine Calls.mono (bytes_same _ _ _ _ _ _ _ _ (HCV.out _ (bytes_below _ HBr.out.drew HBr.out.size)) (conv_new j _ wr.drew _ (by rfl))) ?_; rintro x5 w5' ⟨rfl, rfl⟩))
              go_wp2_with fail
              go_roundg (i - (m + 1))
              case measure => omega
              case rel => exact ⟨m + 1, by omega, by omega, by go_num, bytes_below _ HBr.out.drew HBr.out.size⟩
            · go_wp2_with fail
              go_ret
              exact ⟨rfl, HBW.out.trans (HBr.out.mono hz3)⟩
      · go_wp2_with (at_builtin; refine wpList_append_own _ rfl _ _ 22 rfl w.heap.size 5 i0 (.int .u8 0) 1 1 Ybaf.underlying22 hi0 hz0' hz1' hz2' rfl (by decide) _ _ _ rfl (World.ownsRow.alloc Hb.out _) (Addr.mk wr.heap.size 0 none) 1 1 [.int .u8 93] rfl rfl (World.news_of_block (cs := #[.int .u8 93]) (t := 5) (fr := (0, 0)) (heap_alloc_new wr _)) ?c2 ?c3 ?c4 ?c5 ?_)
        case c2 => intro u hu; simp at hu; subst hu; rfl
        case c3 => unfold maxLen; omega
        case c4 => omega
        case c5 => simp; omega
        intro v5 w5 hown hgr _
        have hb5 : Buf w.heap.size w5 v5 (pre (fun i => elem (pick z0 i)) (spAt z1) i i ++ [93]) := Buf.app hown rfl rfl
        have hB5 : Below w.heap.size w w5 := (HB.out.alloc hzr _).grown hgr (by simp; omega) (Buf.row_ge Hb.out)
        clear hown hgr
        have hz5 := hB5.size
        have hP5l : (pre (fun i => elem (pick z0 i)) (spAt z1) i i ++ [93]).length ≤ 30000 := by simp only [List.length_append, List.length_cons, List.length_nil]; omega
        generalize hP5 : pre (fun i => elem (pick z0 i)) (spAt z1) i i ++ [93] = P5 at hb5 hP5l
        have HQ5 : Hid (Buf w.heap.size w5 v5 P5) := hb5
        have HR5 : Hid (Below w.heap.size w w5) := hB5
        have HP5 := hide hP5
        clear hb5 hB5 hP5
        go_wp2_with (at_builtin; refine wpList_append_own _ rfl _ _ 22 rfl w.heap.size 5 i0 (.int .u8 0) 1 1 Ybaf.underlying22 hi0 hz0' hz1' hz2' rfl (by decide) _ _ _ rfl (World.ownsRow.alloc HQ5.out _) (Addr.mk w5.heap.size 0 none) 2 2 [.int .u8 32, .int .u8 120] rfl rfl (World.news_of_block (cs := #[.int .u8 32, .int .u8 120]) (t := 5) (fr := (0, 0)) (heap_alloc_new w5 _)) ?c2 ?c3 ?c4 ?c5 ?_)
        case c2 => intro u hu; simp at hu; rcases hu with rfl | rfl <;> rfl
        case c3 => unfold maxLen; omega
        case c4 => omega
        case c5 => simp; omega
        intro v6 w6 hown hgr _
        have hb6 : Buf w.heap.size w6 v6 (P5 ++ [32, 120]) := Buf.app hown rfl rfl
        have hB6 : Below w.heap.size w w6 := (HR5.out.alloc hz5 _).grown hgr (by simp; omega) (Buf.row_ge HQ5.out)
        clear hown hgr
        obtain ⟨T, hT⟩ : ∃ T, T = pre (fun i => elem (pick z0 i)) (spAt z1) i i ++ (93 :: [32, 120]) := ⟨_, rfl⟩
        have e5 : P5 ++ [32, 120] = T := by rw [hT, ← HP5.out]; simp
        rw [e5] at hb6
        have hTl : T.length = (pre (fun i => elem (pick z0 i)) (spAt z1) i i).length + 3 := by rw [hT]; simp
        obtain ⟨g, cap, rfl, hgB, hgl, hcap, hcells⟩ := hb6.opened (by omega)
        have sg := Seg.of (T := T) (A := pre (fun i => elem (pick z0 i)) (spAt z1) i i ++ [93]) (l := [32, 120]) (R := []) (by rw [hT]; simp)
        have k0 := sg.2 0 (by decide)
        have k1 := sg.2 1 (by decide)
        rw [List.length_append] at k0 k1
        have hend : Sp T ((pre (fun i => elem (pick z0 i)) (spAt z1) i i).length + 1) ((pre (fun i => elem (pick z0 i)) (spAt z1) i i).length + 2) := ⟨by omega, by omega, fun t u1 u2 => by
          obtain rfl : t = (pre (fun i => elem (pick z0 i)) (spAt z1) i i).length + 1 := (by omega)
          exact k0 ▸ rfl, k1 ▸ rfl⟩
        have hlist := list_bad (T := T) (d := g) (C := cap) (w := w6) (n := i) (f := (pre (fun i => elem (pick z0 i)) (spAt z1) i i).length + 1) (valsOf (fun i => elem (pick z0 i)) (spAt z1) i g cap) hcells hgl hcap (by omega) rfl (HLT.out T [32, 120] g cap hT) _ hend
        have HL := hide hlist
        have HBN : Hid (Below w.heap.size w w6) := hB6
        have hzN := hB6.size
        clear hlist hcells hT hTl hB6 sg k0 k1 hend
        go_wp2_with fail
        refine Calls.mono HL.out ?_
        rintro x3 w3 ⟨ad, rfl, hB3⟩
        have n24 := neq_err
        have n34 := eql_nil34
        have HB3 : Hid (Below w.heap.size w w3) := HBN.out.trans (hB3.mono hzN)
        clear hB3
        go_wp2_with fail
        go_ret
        exact ⟨rfl, HB3.out⟩
end Go.Proofs.YbulkdfkFmt
