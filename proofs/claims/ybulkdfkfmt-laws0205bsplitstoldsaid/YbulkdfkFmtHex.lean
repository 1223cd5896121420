import Derived.Shelf.Hex.Encode
import Derived.Shelf.Lay
import Derived.Test.YbulkdfkFmtHeader
import Derived.StillTactics
import Derived.OwnWalk
import Derived.Laws.Pointers
import Derived.Deep.RegionHeldLaw
import Derived.Deep.AppendLies
import Derived.KernelRfl
namespace Go.Proofs.YbulkdfkFmt
open Go.Shelf Go.Lib Go.RowKit
set_option linter.unusedVariables false
shelf_lay Lays.ph39 Pa 39 at Ybaf as Ybaf.lays39

/-- A slice of bytes that came in: empty, or n cells that hold the numbers zs. -/
def Src (w : World) (a : Option Addr) (n cap : Nat) (zs : List Int) : Prop :=
  zs.length = n ∧ (∀ i, i < n → 0 ≤ zs.getD i 0 ∧ zs.getD i 0 < 256) ∧
    (n = 0 ∨ ∃ b o, a = some ⟨b, o, none⟩ ∧ b < w.heap.size ∧ ∀ i, i < n → w.cell? ⟨b, o + i, none⟩ = some (.int .u8 (zs.getD i 0)))

theorem Src.below {w w' : World} {a : Option Addr} {n cap : Nat} {zs : List Int} (h : Src w a n cap zs) {B : Nat} (hb : Below B w w') (hB : w.heap.size ≤ B) : Src w' a n cap zs := by
  obtain ⟨h1, h2, h3⟩ := h
  refine ⟨h1, h2, ?_⟩
  rcases h3 with h3 | ⟨b, o, ha, hl, hc⟩
  · exact .inl h3
  · exact .inr ⟨b, o, ha, Nat.lt_of_lt_of_le hl hb.size, fun i hi => by rw [hb.cell (by simp; omega)]; exact hc i hi⟩

def hexOf (zs : List Int) : ByteArray := ⟨(Hx.encode (Lib.bytesOf zs)).toArray⟩

theorem info5 : (Ybaf.prog.info? 5).map (fun i => (i.zero, i.size, i.bytes)) = some (some (.int .u8 0), 1, 1) := by kernel_rfl

set_option maxHeartbeats 1000000 in
set_option maxRecDepth 100000 in
theorem encode_zero (dst : Value) (p : Option Addr) (c : Nat) (w : World) :
    Calls Ybaf.prog 43 #[dst, .slice p 0 c] w fun e w' => e = .returned (.int .i64 0) ∧ w' = w := by
  go_enter Ybaf.func43, Ybaf.ntmps43
  go_wp2
  go_loop [5, 10] (fun vj vi => vi = .int .i64 0 ∧ vj = .int .i64 0) (fun _ _ => 0)
  case atStart => exact ⟨rfl, rfl⟩
  case round =>
    obtain ⟨rfl, rfl⟩ := hrel
    go_wp2
    go_ret
    exact ⟨rfl, rfl⟩

theorem encodedLen_zero (w : World) : Calls Ybaf.prog 42 #[.int .i64 0] w fun e w' => e = .returned (.int .i64 0) ∧ w' = w := by
  go_enter Ybaf.func42, Ybaf.ntmps42
  go_wp2
  go_ret
  exact ⟨rfl, rfl⟩

set_option maxHeartbeats 1000000 in
set_option maxRecDepth 100000 in
theorem encodeToString_zero (p : Option Addr) (c : Nat) (w : World) :
    Calls Ybaf.prog 26 #[.slice p 0 c] w fun e w' => e = .returned (.string (hexOf [])) ∧ Below w.heap.size w w' := by
  obtain ⟨i0, hi, hz0, hz1, hz2⟩ := info_parts info5
  obtain ⟨wm, hmk, hown, hgr⟩ := run_make_own w w.heap.size 22 5 i0 (.int .u8 0) 1 Ybaf.underlying22 hi hz0 hz1 .i64 .i64 0 (by rw [hz2]; omega) (by unfold maxLen; omega) (Nat.le_refl _)
  rw [show ((0 : Nat) : Int) = 0 by omega] at hmk
  have HG : Hid (Below w.heap.size w wm) := (Below.refl _ w).grown hgr (Nat.le_refl _) (fun _ h => by cases h)
  have hcv := run_convert_bytes_arg (P := Ybaf.prog) wm 22 5 Ybaf.underlying22 Ybaf.underlying5 w.heap.size 0 0 0 [] rfl (fun i hi => absurd hi (Nat.not_lt_zero _)) 9 Ybaf.underlying9
  clear hown hgr
  go_enter Ybaf.func26, Ybaf.ntmps26
  go_wp2_with (first
    | (go_at_call 42; refine (encodedLen_zero _).mono ?_; rintro e w' ⟨rfl, rfl⟩)
    | (go_at_call 43; refine (encode_zero _ _ _ _).mono ?_; rintro e w' ⟨rfl, rfl⟩))
  go_ret
  exact ⟨rfl, HG.out⟩

theorem encodeToString (a : Option Addr) (n cap : Nat) (zs : List Int) (w : World) (h : Src w a n cap zs) (hn : n ≤ 1024) :
    Calls Ybaf.prog 26 #[.slice a n cap] w fun e w' => e = .returned (.string (hexOf zs)) ∧ Below w.heap.size w w' := by
  obtain ⟨h1, h2, h3⟩ := h
  rcases h3 with rfl | ⟨b, o, rfl, hl, hc⟩
  · have hz : zs = [] := List.length_eq_zero_iff.1 h1
    subst hz
    exact encodeToString_zero a cap w
  · exact Any.hex_EncodeToString Ybaf.lays39 b o n cap zs w h1 h2 hc hl (by omega)


def hexVals (zs : List Int) (k : Nat) : List Value := (Hx.nums (Lib.bytesOf (zs.take k))).map (Value.int .u8)

theorem digAt (y : Int) (h0 : 0 ≤ y) (h1 : y < 16) (w : World) : (Instr.index 9 (.string ⟨#[48, 49, 50, 51, 52, 53, 54, 55, 56, 57, 97, 98, 99, 100, 101, 102]⟩) (.int .u8 y)).run Ybaf.prog w = .ok (.int .u8 ((Hx.digit y.toNat).toNat : Int)) w := by
  have : y = 0 ∨ y = 1 ∨ y = 2 ∨ y = 3 ∨ y = 4 ∨ y = 5 ∨ y = 6 ∨ y = 7 ∨ y = 8 ∨ y = 9 ∨ y = 10 ∨ y = 11 ∨ y = 12 ∨ y = 13 ∨ y = 14 ∨ y = 15 := by omega
  rcases this with rfl | rfl | rfl | rfl | rfl | rfl | rfl | rfl | rfl | rfl | rfl | rfl | rfl | rfl | rfl | rfl <;> (show _ = _; kernel_rfl)

theorem mask15 {x : Int} (h0 : 0 ≤ x) (h1 : x < 256) : bits .and .u8 x 15 = x % 16 := by
  have H : ((List.range 256).all fun r => decide (bits .and .u8 (r : Int) 15 = (r : Int) % 16)) = true := by kernel_rfl
  have := of_decide_eq_true (List.all_eq_true.1 H x.toNat (by rw [List.mem_range]; omega))
  rwa [Int.toNat_of_nonneg h0] at this

theorem hexStep (zs : List Int) (k : Nat) (hk : k < zs.length) (x : Int) (hx : x = zs.getD k 0) (h0 : 0 ≤ x) (h1 : x < 256) :
    hexVals zs (k + 1) = hexVals zs k ++ [.int .u8 ((Hx.digit (x / 16).toNat).toNat : Int), .int .u8 ((Hx.digit (x % 16).toNat).toNat : Int)] := by
  have hg : zs.take (k + 1) = zs.take k ++ [x] := by
    rw [List.take_add_one, hx, List.getD_eq_getElem?_getD, List.getElem?_eq_getElem hk]; rfl
  have e1 : (UInt8.ofNat x.toNat).toNat = x.toNat := Hx.byte_toNat x h0 h1
  have e2 : x.toNat / 16 = (x / 16).toNat := by omega
  have e3 : x.toNat % 16 = (x % 16).toNat := by omega
  unfold hexVals
  rw [hg]
  simp [Hx.nums, Hx.encode, Lib.bytesOf, e1, e2, e3]

set_option maxHeartbeats 2000000 in
set_option maxRecDepth 100000 in
theorem chex_some (b o n cap : Nat) (zs : List Int) (w : World) (h1 : zs.length = n) (h2 : ∀ i, i < n → 0 ≤ zs.getD i 0 ∧ zs.getD i 0 < 256) (hl : b < w.heap.size) (hc : ∀ i, i < n → w.cell? ⟨b, o + i, none⟩ = some (.int .u8 (zs.getD i 0))) (hn : n ≤ 1024) :
    Calls Ybaf.prog 15 #[.slice (some ⟨b, o, none⟩) n cap] w fun e w' => e = .returned (.string (hexOf zs)) ∧ Below w.heap.size w w' := by
  obtain ⟨i0, hi, hz0, hz1, hz2⟩ := info_parts info5
  obtain ⟨wm, hmk, hown, hgr⟩ := run_make_own w w.heap.size 22 5 i0 (.int .u8 0) 1 Ybaf.underlying22 hi hz0 hz1 .i64 .i64 (2 * n) (by rw [hz2]; omega) (by unfold maxLen; omega) (Nat.le_refl _)
  rw [show ((2 * n : Nat) : Int) = 2 * (n : Int) by omega] at hmk
  have HL : Hid (zs.length = n) := h1
  have HR : Hid (∀ i, i < n → 0 ≤ zs.getD i 0 ∧ zs.getD i 0 < 256) := h2
  have HC : Hid (∀ i, i < n → w.cell? ⟨b, o + i, none⟩ = some (.int .u8 (zs.getD i 0))) := hc
  have HO : Hid (wm.ownsRow w.heap.size 5 1 (.slice (some ⟨w.heap.size, 0, none⟩) 0 (2 * n)) 0 []) := hown
  have HG : Hid (Below w.heap.size w wm) := (Below.refl _ w).grown hgr (Nat.le_refl _) (fun _ h => by cases h)
  clear h1 h2 hc hown hgr
  go_enter Ybaf.func15, Ybaf.ntmps15
  go_wp2
  go_loopw [3, 4] (fun v3 v4 wr => ∃ k g c : Nat, k ≤ n ∧ v4 = .int .i64 k ∧ v3 = .slice (some ⟨g, 0, none⟩) (2 * k) c ∧ Hid (wr.ownsRow w.heap.size 5 1 (.slice (some ⟨g, 0, none⟩) (2 * k) c) (2 * k) (hexVals zs k)) ∧ Hid (Below w.heap.size w wr)) (fun _ v4 _ => n - (RowKit.intOf v4).toNat)
  case atStart => exact ⟨0, w.heap.size, 2 * n, Nat.zero_le _, rfl, rfl, HO, HG⟩
  case round =>
    obtain ⟨k, g, c, hk, rfl, rfl, hO, hB⟩ := hrel
    obtain ⟨x, hx⟩ : ∃ x, x = zs.getD k 0 := ⟨_, rfl⟩
    have hcx : k < n → wr.cell? ⟨b, o + k, none⟩ = some (.int .u8 x) := fun h => by rw [hx, hB.out.cell hl]; exact HC.out k h
    have hx0 : k < n → 0 ≤ x := fun h => by rw [hx]; exact (HR.out k h).1
    have hx1 : k < n → x < 256 := fun h => by rw [hx]; exact (HR.out k h).2
    have HX : Hid (x = zs.getD k 0) := hx
    clear hx
    go_wp2_with fail
    · have hlt : k < n := by assumption
      have hcx := hcx hlt
      have hx0 := hx0 hlt
      have hx1 := hx1 hlt
      have hk0 : (0 : Int) ≤ (k : Int) := Int.natCast_nonneg _
      have hk1 : (k : Int) < (n : Int) := by omega
      have hd0 : 0 ≤ x / 16 := by omega
      have hd1 : x / 16 < 16 := by omega
      have hm0 : 0 ≤ x % 16 := by omega
      have hm1 : x % 16 < 16 := by omega
      have e1 := digAt (x / 16) hd0 hd1
      have e2 := digAt (x % 16) hm0 hm1
      obtain ⟨d1, D1⟩ : ∃ d, Hid (d = ((Hx.digit (x / 16).toNat).toNat : Int)) := ⟨_, rfl⟩
      obtain ⟨d2, D2⟩ : ∃ d, Hid (d = ((Hx.digit (x % 16).toNat).toNat : Int)) := ⟨_, rfl⟩
      rw [← D1.out] at e1
      rw [← D2.out] at e2
      have hgb : w.heap.size ≤ g := (hO.out.lt g rfl).1
      have hmask := mask15 hx0 hx1
      have hbn : b < wr.heap.size := World.block_lt_of_cell? wr _ hcx
      go_region_held_law (fun w' => w'.cell? ⟨b, o + k, none⟩ = some (.int .u8 x)) (first | go_keep | (rw [hgrow.cell_far _ (by simp; omega) (by simp [Value.ownBlock]; omega)]; assumption))
        ((refine step_append_lies _ (by rfl) _ _ _ (by rfl) w.heap.size 5 i0 _ 1 1 Ybaf.underlying22 hi hz0 hz1 hz2 rfl (by omega) (Value.slice (some ⟨g, 0, none⟩) (2 * k) c) (2 * k) (hexVals zs k) (by rfl) ((hO.out.alloc _).drew) (Addr.mk wr.heap.size 0 none) 2 2 [.int .u8 d1, .int .u8 d2] (by rfl) (by rfl) (World.news_of_block (cs := #[.int .u8 d1, .int .u8 d2]) (t := 5) (fr := (0, 0)) (heap_alloc_new wr _)) (by simp [Value.oneCell']) (by omega) (by unfold maxLen; omega) (by omega) (by have := hB.out.size; simp; omega) (wr.heap.size + 1) (by simp) ?_; intro gg cap' w1 hown1 hgrow hat hlt2))
      all_goals
        go_wp2
        refine ⟨⟨k + 1, gg, cap', by omega, by go_num, by rw [Nat.mul_add], ?_, ?_⟩, by simp [RowKit.intOf]; omega⟩
        · rw [hexStep zs k (by rw [HL.out]; exact hlt) x HX.out hx0 hx1, ← D1.out, ← D2.out]
          exact hown1
        · have hz : Below w.heap.size w (wr.alloc (.cells #[.int .u8 d1, .int .u8 d2] 5)).drew := (hB.out.alloc hB.out.size _).drew
          exact hz.grown hgrow (by have := hB.out.size; simp; omega) (fun j hj => by cases hj; exact hgb)
    · have hk2 : k = n := by omega
      subst hk2
      have hcv := run_convert_bytes_arg (P := Ybaf.prog) wr 22 5 Ybaf.underlying22 Ybaf.underlying5 g 0 (2 * k) c (Hx.nums (Lib.bytesOf zs)) (by rw [Hx.nums_length, Lib.bytesOf_length, HL.out]) (fun i hi => by
        have := hO.out.cellAt i (by omega)
        rw [Nat.zero_add, this, hexVals, List.take_of_length_le (by rw [HL.out]; exact Nat.le_refl _), List.getElem?_map, List.getD_eq_getElem?_getD, List.getElem?_eq_getElem (by rw [Hx.nums_length, Lib.bytesOf_length, HL.out]; exact hi)]
        rfl) 9 Ybaf.underlying9
      rw [hcv]
      go_wp2
      go_ret
      exact ⟨by rw [Hx.strOfNums_nums]; rfl, hB.out⟩

set_option maxHeartbeats 2000000 in
set_option maxRecDepth 100000 in
theorem chex_zero (p : Option Addr) (c : Nat) (w : World) :
    Calls Ybaf.prog 15 #[.slice p 0 c] w fun e w' => e = .returned (.string (hexOf [])) ∧ Below w.heap.size w w' := by
  obtain ⟨i0, hi, hz0, hz1, hz2⟩ := info_parts info5
  obtain ⟨wm, hmk, hown, hgr⟩ := run_make_own w w.heap.size 22 5 i0 (.int .u8 0) 1 Ybaf.underlying22 hi hz0 hz1 .i64 .i64 0 (by rw [hz2]; omega) (by unfold maxLen; omega) (Nat.le_refl _)
  rw [show ((0 : Nat) : Int) = 0 by omega] at hmk
  have HG : Hid (Below w.heap.size w wm) := (Below.refl _ w).grown hgr (Nat.le_refl _) (fun _ h => by cases h)
  have hcv := run_convert_bytes_arg (P := Ybaf.prog) wm 22 5 Ybaf.underlying22 Ybaf.underlying5 w.heap.size 0 0 0 [] rfl (fun i hi => absurd hi (Nat.not_lt_zero _)) 9 Ybaf.underlying9
  clear hown hgr
  go_enter Ybaf.func15, Ybaf.ntmps15
  go_wp2
  go_loopw [3, 4] (fun v3 v4 wr => v4 = .int .i64 0 ∧ v3 = .slice (some ⟨w.heap.size, 0, none⟩) 0 0 ∧ wr = wm) (fun _ v4 _ => 0)
  case atStart => exact ⟨rfl, rfl, rfl⟩
  case round =>
    obtain ⟨rfl, rfl, rfl⟩ := hrel
    go_wp2
    go_ret
    exact ⟨rfl, HG.out⟩

theorem chex (a : Option Addr) (n cap : Nat) (zs : List Int) (w : World) (h : Src w a n cap zs) (hn : n ≤ 1024) :
    Calls Ybaf.prog 15 #[.slice a n cap] w fun e w' => e = .returned (.string (hexOf zs)) ∧ Below w.heap.size w w' := by
  obtain ⟨h1, h2, h3⟩ := h
  rcases h3 with rfl | ⟨b, o, rfl, hl, hc⟩
  · have hz : zs = [] := List.length_eq_zero_iff.1 h1
    subst hz
    exact chex_zero a cap w
  · exact chex_some b o n cap zs w h1 h2 hl hc hn
end Go.Proofs.YbulkdfkFmt
