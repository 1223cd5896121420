import Derived.Test.YbulkdfkFmtList
import Derived.Test.YbulkdfkFmtHex
import Derived.Lib.AppendStr
namespace Go.Proofs.YbulkdfkFmt
open Go.RowKit
set_option linter.unusedVariables false

set_option maxRecDepth 100000 in
theorem belem (j : Nat) (hj : j < 10) (z : Int) (hz : z = j) (w : World) : Calls Ybaf.prog 10 #[.int .i64 z] w fun x w' => x = .returned (.string (strOfNums (elem j))) ∧ w' = w := by
  subst hz
  have h10 : j = 0 ∨ j = 1 ∨ j = 2 ∨ j = 3 ∨ j = 4 ∨ j = 5 ∨ j = 6 ∨ j = 7 ∨ j = 8 ∨ j = 9 := by omega
  rcases h10 with rfl | rfl | rfl | rfl | rfl | rfl | rfl | rfl | rfl | rfl
  all_goals
    go_enter Ybaf.func10, Ybaf.ntmps10
    go_wp2_with fail
    go_ret
    exact ⟨rfl, rfl⟩

/-- The white space that the octet z picks. -/
def sps (z : Int) : List Int := if z % 4 = 0 then [] else if z % 4 = 1 then [32] else if z % 4 = 2 then [10] else [9, 13, 32]
/-- The white space of slot i. -/
def spAt (zs : List Int) (i : Nat) : List Int := if zs.length = 0 then [] else sps (zs.getD (i % zs.length) 0)

/-- A row of octets as values. -/
def u8s (l : List Int) : List Value := l.map (.int .u8)

set_option maxRecDepth 100000 in
theorem bspace_empty (B : Nat) (sv : Value) (a : Option Addr) (c : Nat) (i : Int) (w : World) :
    Calls Ybaf.prog 9 #[sv, .slice a 0 c, .int .i64 i] w fun x w' => x = .returned sv ∧ w' = w := by
  go_enter Ybaf.func9, Ybaf.ntmps9
  go_wp2_with fail
  go_ret
  exact ⟨rfl, rfl⟩

set_option maxRecDepth 100000 in
theorem bspace_at (B n : Nat) (sv : Value) (T : List Int) (w : World) (hown : w.ownsRow B 5 1 sv n (u8s T)) (hB : B ≤ w.heap.size) (hn : n ≤ 100000)
    (b o len c : Nat) (z : Int) (i : Nat) (hi : i < 100000) (hlen : 0 < len) (hl2 : len ≤ 1024) (hz0 : 0 ≤ z) (hz1 : z < 256) (hc : w.cell? ⟨b, o + i % len, none⟩ = some (.int .u8 z)) :
    Calls Ybaf.prog 9 #[sv, .slice (some ⟨b, o, none⟩) len c, .int .i64 i] w fun x w' => ∃ sv', x = .returned sv' ∧ w'.ownsRow B 5 1 sv' (n + (sps z).length) (u8s (T ++ sps z)) ∧ Below B w w' := by
  obtain ⟨i0, hi0, hz0', hz1', hz2'⟩ := info_parts info5
  have g1 : ¬ (len : Int) = 0 := by omega
  have g2 : ((i : Int) % (len : Int)) = ((i % len : Nat) : Int) := by simp
  have g3 : ((i % len : Nat) : Int) < (len : Int) := by have := Nat.mod_lt i hlen; omega
  obtain ⟨m, hm⟩ : ∃ m, m = i % len := ⟨_, rfl⟩
  rw [← hm] at g2 g3 hc
  have g4 : (0 : Int) ≤ (m : Int) := by omega
  have h4 : z % 4 = 0 ∨ z % 4 = 1 ∨ z % 4 = 2 ∨ z % 4 = 3 := by omega
  have HO : Hid (w.ownsRow B 5 1 sv n (u8s T)) := hown
  have g5 : Int.tmod (i : Int) (len : Int) = (m : Int) := by rw [Int.tmod_eq_emod_of_nonneg (by omega)]; exact g2
  have g6 : Int.tmod z 4 = z % 4 := Int.tmod_eq_emod_of_nonneg hz0
  clear hown hm g2 hlen hi
  rcases h4 with h4 | h4 | h4 | h4
  · have e : sps z = [] := by simp [sps, h4]
    rw [e]
    go_enter Ybaf.func9, Ybaf.ntmps9
    go_wp2_with fail
    go_ret
    exact ⟨sv, rfl, by simpa using HO.out, Below.refl _ _⟩
  · have e : sps z = [32] := by simp [sps, h4]
    rw [e]
    go_enter Ybaf.func9, Ybaf.ntmps9
    go_wp2_with (at_builtin; refine wpList_append_own _ rfl _ _ 22 rfl B 5 i0 (.int .u8 0) 1 1 Ybaf.underlying22 hi0 hz0' hz1' hz2' rfl (by decide) _ _ _ rfl (HO.out.alloc _) (Addr.mk w.heap.size 0 none) 1 1 [.int .u8 32] rfl rfl (World.news_of_block (cs := #[.int .u8 32]) (t := 5) (fr := (0, 0)) (heap_alloc_new w _)) ?c2 ?c3 ?c4 ?c5 ?_)
    case c2 => intro u hu; simp at hu; subst hu; rfl
    case c3 => unfold maxLen; omega
    case c4 => omega
    case c5 => simp; omega
    intro v' w1 hown1 hgr _
    have HB : Hid (Below B w w1) := ((Below.refl B w).alloc hB _).grown hgr (by simp; omega) (fun j hj => by have := owns_row_ge HO.out j; rcases Nat.lt_or_ge j B with h | h; exact absurd hj.symm (this h); exact h)
    have HN : Hid (w1.ownsRow B 5 1 v' (n + 1) (u8s T ++ [.int .u8 32])) := hown1
    clear hgr hown1
    go_wp2_with fail
    go_ret
    exact ⟨v', rfl, by rw [show u8s (T ++ [32]) = u8s T ++ [.int .u8 32] by simp [u8s]]; exact HN.out, HB.out⟩
  · have e : sps z = [10] := by simp [sps, h4]
    rw [e]
    go_enter Ybaf.func9, Ybaf.ntmps9
    go_wp2_with (at_builtin; refine wpList_append_own _ rfl _ _ 22 rfl B 5 i0 (.int .u8 0) 1 1 Ybaf.underlying22 hi0 hz0' hz1' hz2' rfl (by decide) _ _ _ rfl (HO.out.alloc _) (Addr.mk w.heap.size 0 none) 1 1 [.int .u8 10] rfl rfl (World.news_of_block (cs := #[.int .u8 10]) (t := 5) (fr := (0, 0)) (heap_alloc_new w _)) ?c2 ?c3 ?c4 ?c5 ?_)
    case c2 => intro u hu; simp at hu; subst hu; rfl
    case c3 => unfold maxLen; omega
    case c4 => omega
    case c5 => simp; omega
    intro v' w1 hown1 hgr _
    have HB : Hid (Below B w w1) := ((Below.refl B w).alloc hB _).grown hgr (by simp; omega) (fun j hj => by have := owns_row_ge HO.out j; rcases Nat.lt_or_ge j B with h | h; exact absurd hj.symm (this h); exact h)
    have HN : Hid (w1.ownsRow B 5 1 v' (n + 1) (u8s T ++ [.int .u8 10])) := hown1
    clear hgr hown1
    go_wp2_with fail
    go_ret
    exact ⟨v', rfl, by rw [show u8s (T ++ [10]) = u8s T ++ [.int .u8 10] by simp [u8s]]; exact HN.out, HB.out⟩
  · have e : sps z = [9, 13, 32] := by simp [sps, h4]
    rw [e]
    go_enter Ybaf.func9, Ybaf.ntmps9
    go_wp2_with (at_builtin; refine wpList_append_own _ rfl _ _ 22 rfl B 5 i0 (.int .u8 0) 1 1 Ybaf.underlying22 hi0 hz0' hz1' hz2' rfl (by decide) _ _ _ rfl (HO.out.alloc _) (Addr.mk w.heap.size 0 none) 3 3 [.int .u8 9, .int .u8 13, .int .u8 32] rfl rfl (World.news_of_block (cs := #[.int .u8 9, .int .u8 13, .int .u8 32]) (t := 5) (fr := (0, 0)) (heap_alloc_new w _)) ?c2 ?c3 ?c4 ?c5 ?_)
    case c2 => intro u hu; simp at hu; rcases hu with rfl | rfl | rfl <;> rfl
    case c3 => unfold maxLen; omega
    case c4 => omega
    case c5 => simp; omega
    intro v' w1 hown1 hgr _
    have HB : Hid (Below B w w1) := ((Below.refl B w).alloc hB _).grown hgr (by simp; omega) (fun j hj => by have := owns_row_ge HO.out j; rcases Nat.lt_or_ge j B with h | h; exact absurd hj.symm (this h); exact h)
    have HN : Hid (w1.ownsRow B 5 1 v' (n + 3) (u8s T ++ [.int .u8 9, .int .u8 13, .int .u8 32])) := hown1
    clear hgr hown1
    go_wp2_with fail
    go_ret
    exact ⟨v', rfl, by rw [show u8s (T ++ [9, 13, 32]) = u8s T ++ [.int .u8 9, .int .u8 13, .int .u8 32] by simp [u8s]]; exact HN.out, HB.out⟩

/-- The buffer v holds the octets T; its row lies from block B on. -/
def Buf (B : Nat) (w : World) (v : Value) (T : List Int) : Prop := w.ownsRow B 5 1 v T.length (u8s T)

theorem Buf.app {B : Nat} {w : World} {v : Value} {T l : List Int} {m : Nat} {news : List Value} (h : w.ownsRow B 5 1 v (T.length + m) (u8s T ++ news)) (hm : m = l.length) (hn : news = u8s l) : Buf B w v (T ++ l) := by
  subst hm hn
  unfold Buf
  rw [show u8s (T ++ l) = u8s T ++ u8s l by simp [u8s], List.length_append]
  exact h

/-- 'zzs0205bspace' at any slice that came in. -/
theorem bspace {B : Nat} {w0 w : World} {sv : Value} {T : List Int} {a : Option Addr} {len c : Nat} {zs : List Int} (hs : Src w0 a len c zs) (hl : len ≤ 1024) (hbel : Below w0.heap.size w0 w) (hb : Buf B w sv T) (hB : B ≤ w.heap.size) (hT : T.length ≤ 100000) (i : Nat) (hi : i < 100000) (z : Int) (hz : z = i) :
    Calls Ybaf.prog 9 #[sv, .slice a len c, .int .i64 z] w fun x w' => ∃ sv', x = .returned sv' ∧ Buf B w' sv' (T ++ spAt zs i) ∧ Below B w w' := by
  subst hz
  obtain ⟨h1, h2, h3⟩ := hs
  rcases Nat.eq_zero_or_pos len with rfl | hpos
  · have e : spAt zs i = [] := by simp [spAt, h1]
    rw [e, List.append_nil]
    refine (bspace_empty B sv a c i w).mono ?_
    rintro x w' ⟨rfl, rfl⟩
    exact ⟨sv, rfl, hb, Below.refl _ _⟩
  · have e : spAt zs i = sps (zs.getD (i % len) 0) := by unfold spAt; rw [if_neg (by omega), h1]
    rcases h3 with h3 | ⟨b, o, rfl, hb0, hc⟩
    · omega
    have hm : i % len < len := Nat.mod_lt i hpos
    obtain ⟨r1, r2⟩ := h2 (i % len) hm
    refine (bspace_at B T.length sv T w hb hB hT b o len c (zs.getD (i % len) 0) i hi hpos hl r1 r2 (by rw [hbel.cell (by exact hb0)]; exact hc _ hm)).mono ?_
    rintro x w' ⟨sv', rfl, h4, h5⟩
    rw [e]
    exact ⟨sv', rfl, Buf.app (news := u8s (sps (zs.getD (i % len) 0))) (by rw [show u8s T ++ u8s (sps (zs.getD (i % len) 0)) = u8s (T ++ sps (zs.getD (i % len) 0)) by simp [u8s]]; exact h4) rfl rfl, h5⟩

theorem strCells_elem (j : Nat) : Lib.strCells (strOfNums (elem j)) = u8s (elem j) := by
  match j with
  | 0 => rfl
  | 1 => rfl
  | 2 => rfl
  | 3 => rfl
  | 4 => rfl
  | 5 => rfl
  | 6 => rfl
  | 7 => rfl
  | 8 => rfl
  | _ + 9 => rfl
end Go.Proofs.YbulkdfkFmt
