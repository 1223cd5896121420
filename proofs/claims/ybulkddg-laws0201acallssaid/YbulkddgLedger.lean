import Derived.Test.YbulkddgRows
import Derived.WalkKit
import Derived.WalkSpells
import Derived.WalkLawsBesides
import Derived.Lib.SliceRun
import Derived.WideShapes
namespace Go.Proofs.Ybulkddg
open Go.RowKit
open Go.WideShapes (add_plain)
set_option linter.unusedVariables false

/-- A slice of integers that came in: nil, or 'cap' cells that hold the numbers 'zs'. -/
def Row (k : IntKind) (w : World) (a : Option Addr) (len cap : Nat) (zs : List Int) : Prop :=
  (a = none ∧ len = 0 ∧ cap = 0 ∧ zs = []) ∨
  ∃ x, a = some x ∧ len ≤ cap ∧ cap ≤ maxLen ∧ zs.length = cap ∧ (∀ i, i < zs.length → w.cell? (x.add i) = some (.int k (zs.getD i 0))) ∧ ∀ n ∈ zs, (Lit.int k n).wf = true

theorem Yba.info5 : (Yba.prog.info? 5).map (fun i => (i.zero, i.size, i.bytes)) = some (some (.int .u8 0), 1, 1) := by kernel_rfl

/-- The eight bytes of v, the least first, as the walk spells them. -/
def le8 (v : Int) : List Value :=
  [.int .u8 (v % 256), .int .u8 (v / 256 % 256), .int .u8 (v / 65536 % 256), .int .u8 (v / 16777216 % 256), .int .u8 (v / 4294967296 % 256), .int .u8 (v / 1099511627776 % 256), .int .u8 (v / 281474976710656 % 256), .int .u8 (v / 72057594037927936)]

set_option maxHeartbeats 2000000 in
set_option maxRecDepth 100000 in
theorem append64 (B n : Nat) (v : Int) (h0 : 0 ≤ v) (hv : v < 18446744073709551616) (sv : Value) (xs : List Value) (w : World) (hown : w.ownsRow B 5 1 sv n xs) (hBw : B ≤ w.heap.size) (hlim : n + 8 ≤ 140737488355328) :
    Calls Yba.prog 18 #[.agg #[], sv, .int .u64 v] w fun e w' => ∃ v', e = .returned v' ∧ w'.ownsRow B 5 1 v' (n + 8) (xs ++ le8 v) ∧ w.grownBy w' sv.ownBlock := by
  obtain ⟨i0, hi, hz0, hz1, hz2⟩ := info_parts Yba.info5
  go_enter Yba.func18, Yba.ntmps18
  go_wp2_with (at_builtin; refine wpList_append_own _ rfl _ _ 46 rfl B 5 i0 (.int .u8 0) 1 1 Yba.underlying46 hi hz0 hz1 hz2 rfl (by decide) _ _ _ rfl ((hown.alloc _).alloc _) _ 8 8 (le8 v) rfl rfl ?c1 ?c2 ?c3 ?c4 ?c5 ?_)
  case c1 =>
    intro j u hj
    unfold le8 at hj
    match j, hj with
    | 0, hj => simp at hj; subst hj; simp [Addr.add]
    | 1, hj => simp at hj; subst hj; simp [Addr.add]
    | 2, hj => simp at hj; subst hj; simp [Addr.add]
    | 3, hj => simp at hj; subst hj; simp [Addr.add]
    | 4, hj => simp at hj; subst hj; simp [Addr.add]
    | 5, hj => simp at hj; subst hj; simp [Addr.add]
    | 6, hj => simp at hj; subst hj; simp [Addr.add]
    | 7, hj => simp at hj; subst hj; simp [Addr.add]
  case c2 => intro u hu; simp [le8] at hu; rcases hu with rfl | rfl | rfl | rfl | rfl | rfl | rfl | rfl <;> rfl
  case c3 => unfold maxLen; omega
  case c4 => omega
  case c5 => simp; omega
  intro v' w2 hown' hgrow _
  go_wp2
  go_ret
  refine ⟨v', rfl, hown', ?_⟩
  exact ⟨hgrow.os, hgrow.tape, hgrow.output, Nat.le_trans (by simp; omega) hgrow.size, fun k hk hne => by rw [hgrow.block k (by simp; omega) hne]; rw [Below.heap_alloc _ _ _ (by simp; omega), Below.heap_alloc _ _ _ hk]⟩

theorem getD_take {zs : List Int} {len j : Nat} {u : Value} {k : IntKind} (h : ((zs.take len).map (Value.int k))[j]? = some u) : j < zs.length ∧ u = .int k (zs.getD j 0) := by
  rw [List.getElem?_map, List.getElem?_take] at h
  split at h
  · cases hz : zs[j]? with
    | none => rw [hz] at h; cases h
    | some z =>
      rw [hz] at h
      simp at h
      have := (List.getElem?_eq_some_iff.1 hz).1
      exact ⟨this, by rw [← h, List.getD_eq_getElem?_getD, hz]; rfl⟩
  · cases h

set_option maxHeartbeats 2000000 in
set_option maxRecDepth 100000 in
theorem clone_any (a : Option Addr) (len cap : Nat) (zs : List Int) (w : World) (hR : Row .u8 w a len cap zs) (hlen : len ≤ 1024) :
    Calls Yba.prog 11 #[.slice a len cap] w fun e w' => ∃ v', e = .returned v' ∧ w'.ownsRow w.heap.size 5 1 v' len ((zs.take len).map (Value.int .u8)) ∧ Below w.heap.size w w' := by
  obtain ⟨i0, hi, hz0, hz1, hz2⟩ := info_parts Yba.info5
  have q46 : ∀ (w : World) (a : Option Addr) (n c n' c' : Nat), (binOp .eql 46 (.slice a n c) (.slice none n' c')).run Yba.prog w = .ok (.bool a.isNone) w := fun w a n c n' c' => Lib.run_eql_slice_nil w _ _ a n c n' c' Yba.underlying46
  rcases hR with ⟨rfl, rfl, rfl, rfl⟩ | ⟨x, rfl, hl, hm, hz, hc, hwf⟩
  · go_enter Yba.func11, Yba.ntmps11
    go_wp2
    go_ret
    exact ⟨_, rfl, World.ownsRow_nil _ _ _ _, Below.refl _ _⟩
  · have A : Hid (∀ i, i < zs.length → w.cell? (x.add i) = some (.int .u8 (zs.getD i 0))) := hc
    have hb : ∀ j u, ((zs.take len).map (Value.int .u8))[j]? = some u → w.cell? (x.add j) = some u := fun j u hj => by
      obtain ⟨h1, rfl⟩ := getD_take hj
      exact hc j h1
    have HB : Hid _ := hb
    clear hc hb hwf
    go_enter Yba.func11, Yba.ntmps11
    go_wp2_with (at_builtin; refine wpList_append_own _ rfl _ _ 46 rfl w.heap.size 5 i0 (.int .u8 0) 1 1 Yba.underlying46 hi hz0 hz1 hz2 rfl (by decide) _ _ _ rfl (World.ownsRow_made w #[] 0 (Nat.le_refl _) (Nat.zero_le _) rfl) x len cap ((zs.take len).map (Value.int .u8)) rfl ?c0 ?c1 ?c2 ?c3 ?c4 ?c5 ?_)
    case c0 => simp; omega
    case c1 =>
      intro j u hj
      exact Lib.cell?_alloc_some _ (HB.out j u hj)
    case c2 => intro u hu; obtain ⟨z, _, rfl⟩ := List.mem_map.1 hu; rfl
    case c3 => unfold maxLen; omega
    case c4 => omega
    case c5 => simp
    intro v' w1 hown hgrow hnil
    go_wp2
    go_ret
    refine ⟨v', rfl, by simpa using hown, ?_⟩
    exact ((Below.refl _ w).alloc (Nat.le_refl _) _).grown hgrow (by simp) (by intro k hk; simp [Value.ownBlock] at hk; omega)

theorem own_ne {w : World} {B e size : Nat} {v : Value} {n : Nat} {xs : List Value} {k t : Nat} {cs : Array Value} {r : Nat × Nat} (h : w.ownsRow B e size v n xs) (hk : w.heap[k]? = some (.cells cs t r)) (hne : t ≠ e) : some k ≠ v.ownBlock := by
  rcases h.2 with ⟨rfl, _⟩ | ⟨g, cap, cur, rfl, _, hg, _⟩
  · simp [Value.ownBlock]
  · intro hh
    simp [Value.ownBlock] at hh
    subst hh
    rw [hk] at hg
    simp at hg
    exact hne hg.2.1

theorem cell_of_block {w : World} {k t : Nat} {cs : Array Value} {r : Nat × Nat} (hk : w.heap[k]? = some (.cells cs t r)) (i : Nat) : w.cell? ⟨k, i, none⟩ = cs[i]? := by
  simp [World.cell?, hk]

theorem wrap_u64_bd (o : Int) : 0 ≤ IntKind.u64.wrap o ∧ IntKind.u64.wrap o < 18446744073709551616 := by
  rw [IntKind.wrap_u64]; omega

/-- Every block whose tag is not 5 (no row of bytes) reads as it did. -/
def Kept (w w' : World) : Prop := ∀ (k t : Nat) (cs : Array Value) (r : Nat × Nat), t ≠ 5 → w.heap[k]? = some (.cells cs t r) → w'.heap[k]? = some (.cells cs t r)
theorem Kept.trans {a b c : World} (h : Kept a b) (k : Kept b c) : Kept a c := fun i t cs r ht hi => k i t cs r ht (h i t cs r ht hi)
theorem Kept.alloc (w : World) (o : Obj) : Kept w (w.alloc o) := fun k t cs r _ hk => by
  rw [Below.heap_alloc w o k (Array.getElem?_eq_some_iff.1 hk).1]; exact hk
theorem Kept.grown {w w' : World} {B n : Nat} {v : Value} {xs : List Value} (hown : w.ownsRow B 5 1 v n xs) (hg : w.grownBy w' v.ownBlock) : Kept w w' := fun k t cs r ht hk => by
  rw [hg.block k (Array.getElem?_eq_some_iff.1 hk).1 (own_ne hown hk ht)]; exact hk

set_option maxHeartbeats 400000 in
set_option maxRecDepth 100000 in
theorem appendTo (B n : Nat) (h o z : Int) (h0 : 0 ≤ h) (hv : h < 18446744073709551616) (sv : Value) (xs : List Value) (w : World) (hown : w.ownsRow B 5 1 sv n xs) (hBw : B ≤ w.heap.size) (hlim : n ≤ 1024) :
    Calls Yba.prog 12 #[.agg #[.int .u64 h, .int .i64 o, .int .i64 z], sv] w fun e w' => ∃ v', e = .returned v' ∧ w'.ownsRow B 5 1 v' (n + 24) (xs ++ le8 h ++ le8 (IntKind.u64.wrap o) ++ le8 (IntKind.u64.wrap z)) ∧ Below B w w' ∧ Kept w w' := by
  have hwo := wrap_u64_bd o
  have hwz := wrap_u64_bd z
  go_enter Yba.func12, Yba.ntmps12
  go_wp2_with fail
  refine (append64 B n h h0 hv sv xs _ (hown.alloc _) (by simp; omega) (by omega)).mono ?_
  rintro e w1 ⟨v1, rfl, hown1, hg1⟩
  have k1 : Kept w w1 := (Kept.alloc w _).trans (Kept.grown (hown.alloc _) hg1)
  have hbox1 := Kept.grown (hown.alloc _) hg1 w.heap.size 50 _ (0, 0) (by decide) (heap_alloc_new w _)
  have b1 : Below B w w1 := ((Below.refl B w).alloc hBw _).grown hg1 (by simp; omega) (fun k hk => (hown.lt k hk).1)
  have hc1 : w1.cell? ⟨w.heap.size, 1, none⟩ = some (.int .i64 o) := cell_of_block hbox1 1
  have hs1 := b1.size
  clear hg1
  go_wp2_with fail
  refine (append64 B (n + 8) _ hwo.1 hwo.2 v1 _ _ hown1 (by omega) (by omega)).mono ?_
  rintro e w2 ⟨v2, rfl, hown2, hg2⟩
  have k2 : Kept w1 w2 := Kept.grown hown1 hg2
  have hbox2 := k2 w.heap.size 50 _ (0, 0) (by decide) hbox1
  have b2 : Below B w1 w2 := (Below.refl B w1).grown hg2 (by omega) (fun k hk => (hown1.lt k hk).1)
  have hc2 : w2.cell? ⟨w.heap.size, 2, none⟩ = some (.int .i64 z) := cell_of_block hbox2 2
  have hs2 := b2.size
  clear hg2
  go_wp2_with fail
  refine (append64 B (n + 8 + 8) _ hwz.1 hwz.2 v2 _ _ hown2 (by omega) (by omega)).mono ?_
  rintro e w3 ⟨v3, rfl, hown3, hg3⟩
  have k3 : Kept w2 w3 := Kept.grown hown2 hg3
  have b3 : Below B w2 w3 := (Below.refl B w2).grown hg3 (by omega) (fun k hk => (hown2.lt k hk).1)
  clear hg3
  go_wp2
  go_ret
  exact ⟨v3, rfl, hown3, (b1.trans b2).trans b3, (k1.trans k2).trans k3⟩
theorem Row.at {k : IntKind} {w : World} {a : Option Addr} {len cap : Nat} {zs : List Int} (h : Row k w a len cap zs) (hl : 0 < len) :
    ∃ b off, a = some ⟨b, off, none⟩ ∧ b < w.heap.size ∧ ∀ j, j < zs.length → w.cell? ⟨b, off + j, none⟩ = some (.int k (zs.getD j 0)) := by
  rcases h with ⟨rfl, rfl, rfl, rfl⟩ | ⟨x, rfl, h1, hm, hz, hc, hwf⟩
  · omega
  · obtain ⟨b, off, spot⟩ := x
    have hspot : spot = none := by simpa [Addr.add] using World.cell?_spot (hc 0 (by omega))
    subst hspot
    have hc' : ∀ j, j < zs.length → w.cell? ⟨b, off + j, none⟩ = some (.int k (zs.getD j 0)) := fun j hj => by rw [← add_plain]; exact hc j hj
    exact ⟨b, off, rfl, World.block_lt_of_cell? w _ (hc' 0 (by omega)), hc'⟩

theorem Row.le {k : IntKind} {w : World} {a : Option Addr} {len cap : Nat} {zs : List Int} (h : Row k w a len cap zs) : len ≤ zs.length := by
  rcases h with ⟨_, hh, _, _⟩ | ⟨x, _, h1, _, hz, _⟩ <;> omega

/-- What 'appendTo' hands back: a row of its own: the prefix, then the 24 bytes. -/
theorem out_cells {wi w2 : World} {a0 : Option Addr} {len0 cap0 B : Nat} {z0 : List Int} {v2 : Value} {ys zs us : List Value} (w0 : Row .u8 wi a0 len0 cap0 z0)
    (hown : w2.ownsRow B 5 1 v2 (len0 + 24) ((z0.take len0).map (Value.int .u8) ++ ys ++ zs ++ us)) :
    ∃ g cap, v2 = .slice (some ⟨g, 0, none⟩) (len0 + 24) cap ∧ (∀ j, j < len0 → w2.cell? ⟨g, j, none⟩ = some (.int .u8 (z0.getD j 0))) ∧ ∀ j u, (ys ++ zs ++ us)[j]? = some u → w2.cell? ⟨g, len0 + j, none⟩ = some u := by
  have hle := w0.le
  have hl0 : ((z0.take len0).map (Value.int .u8)).length = len0 := by simp; omega
  rcases hown.2 with ⟨_, h0⟩ | ⟨g, cap, cur, rfl, _, hg, hn, _, _, htk⟩
  · omega
  · have hc : ∀ j u, ((z0.take len0).map (Value.int .u8) ++ ys ++ zs ++ us)[j]? = some u → w2.cell? ⟨g, j, none⟩ = some u := fun j u hj => by
      have := hown.cells (g := g) rfl j u hj
      rw [add_plain, Nat.zero_add] at this
      exact this
    refine ⟨g, cap, rfl, fun j hj => hc j _ ?_, fun j u hj => hc (len0 + j) u ?_⟩
    · rw [List.append_assoc, List.append_assoc, List.getElem?_append_left (by omega), List.getElem?_map, List.getElem?_take, if_pos hj, List.getD_eq_getElem?_getD, List.getElem?_eq_getElem (by omega)]
      rfl
    · rw [List.append_assoc, List.append_assoc, List.getElem?_append_right (by omega), hl0, Nat.add_sub_cancel_left, ← List.append_assoc]
      exact hj

end Go.Proofs.Ybulkddg
