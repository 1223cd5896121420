import Derived.Test.YbulkdfkFmtPlain
import Derived.Lib.ConvBytes
namespace Go.Proofs.YbulkdfkFmt
open Go.RowKit
set_option linter.unusedVariables false

set_option maxRecDepth 100000 in
theorem bytes_same (a1 a2 : Option Addr) (l1 c1 l2 c2 : Nat) (s : ByteArray) (w : World) (h1 : (convert 22 9 (.slice a1 l1 c1)).run Ybaf.prog w = .ok (.string s) w) (h2 : (convert 22 9 (.slice a2 l2 c2)).run Ybaf.prog w = .ok (.string s) w) :
    Calls Ybaf.prog 12 #[.slice a1 l1 c1, .slice a2 l2 c2] w fun x w' => x = .returned (.bool true) ∧ w' = w := by
  go_enter Ybaf.func12, Ybaf.ntmps12
  go_wp2_with fail
  go_ret
  exact ⟨by simp, rfl⟩

/-- '[]byte(s)' in any world. -/
theorem conv_made (s : ByteArray) (W : World) : (convert 9 22 (.string s)).run Ybaf.prog W = .ok (.slice (some ⟨W.heap.size, 0, none⟩) s.size (grownCap W s.size 0 5)) (Lib.bytesWorld W 5 s) :=
  Lib.run_convert_string_bytes W 9 22 5 s Ybaf.underlying9 Ybaf.underlying22 Ybaf.underlying5

theorem lt_of_cell {W : World} {a : Addr} {v : Value} (h : W.cell? a = some v) : a.block < W.heap.size := by
  rcases Nat.lt_or_ge a.block W.heap.size with g | g
  · exact g
  · simp [World.cell?, Array.getElem?_eq_none g] at h

theorem bytes_below {B : Nat} {w W : World} (s : ByteArray) (h : Below B w W) (hB : B ≤ W.heap.size) : Below B w (Lib.bytesWorld W 5 s) :=
  ⟨h.os, h.tape, h.output, by rw [Lib.bytesWorld_size]; have := h.size; omega, fun i hi => by rw [Lib.bytesWorld_at_old _ _ _ _ (by omega)]; exact h.block i hi⟩

/-- What the last loop's region holds on to. -/
def LS (w3 : World) (a1 a2 : Addr) (v1 v2 : Value) (W : World) : Prop := W.cell? a1 = some v1 ∧ W.cell? a2 = some v2 ∧ Below w3.heap.size w3 W

theorem keep_drew {w3 W : World} {a1 a2 : Addr} {v1 v2 : Value} (h : LS w3 a1 a2 v1 v2 W) : LS w3 a1 a2 v1 v2 W.drew := ⟨h.1, h.2.1, h.2.2.drew⟩
theorem keep_bytes {w3 W : World} {a1 a2 : Addr} {v1 v2 : Value} {s : ByteArray} (h : LS w3 a1 a2 v1 v2 W) : LS w3 a1 a2 v1 v2 (Lib.bytesWorld W 5 s) :=
  ⟨by rw [Lib.bytesWorld_old _ _ _ _ (lt_of_cell h.1)]; exact h.1, by rw [Lib.bytesWorld_old _ _ _ _ (lt_of_cell h.2.1)]; exact h.2.1, bytes_below s h.2.2 h.2.2.size⟩

/-- The octets of a string of the table, as numbers. -/
theorem elem_bytes (j i : Nat) (hi : i < (elem j).length) : (((strOfNums (elem j)).data.toList.getD i 0).toNat : Int) = (elem j).getD i 0 := by
  have h := strCells_elem j
  unfold Lib.strCells u8s at h
  have h2 : ((strOfNums (elem j)).data.toList.map fun b => Value.int .u8 b.toNat)[i]? = ((elem j).map (Value.int .u8))[i]? := by rw [h]
  rw [List.getElem?_map, List.getElem?_map, List.getElem?_eq_getElem hi] at h2
  rw [List.getD_eq_getElem?_getD, List.getD_eq_getElem?_getD, List.getElem?_eq_getElem hi]
  cases hq : (strOfNums (elem j)).data.toList[i]? with
  | none => rw [hq] at h2; simp at h2
  | some b => rw [hq] at h2; simp at h2; simpa using h2

theorem conv_new (j c : Nat) (Wx W : World) (h : W.heap = (Lib.bytesWorld Wx 5 (strOfNums (elem j))).heap) :
    (convert 22 9 (.slice (some ⟨Wx.heap.size, 0, none⟩) (strOfNums (elem j)).size c)).run Ybaf.prog W = .ok (.string (strOfNums (elem j))) W := by
  refine run_convert_bytes_arg W 22 5 Ybaf.underlying22 Ybaf.underlying5 Wx.heap.size 0 _ c (elem j) (strOfNums_size _).symm (fun i hi => ?_) 9 Ybaf.underlying9
  have e : W.cell? ⟨Wx.heap.size, 0 + i, none⟩ = (Lib.bytesWorld Wx 5 (strOfNums (elem j))).cell? ⟨Wx.heap.size, i, none⟩ := by rw [Nat.zero_add]; simp [World.cell?, h]
  rw [e, Lib.bytesWorld_cell _ _ _ _ hi, elem_bytes j i (by rwa [strOfNums_size] at hi)]

/-- A buffer that holds something, written out. -/
theorem Buf.opened {B : Nat} {w : World} {v : Value} {T : List Int} (h : Buf B w v T) (hT : 0 < T.length) :
    ∃ g cap, v = .slice (some ⟨g, 0, none⟩) T.length cap ∧ B ≤ g ∧ g < w.heap.size ∧ T.length ≤ cap ∧ ∀ i, i < T.length → w.cell? ⟨g, i, none⟩ = some (.int .u8 (T.getD i 0)) := by
  rcases h.2 with ⟨_, h0⟩ | ⟨g, cap, cur, hv, hb, hg, h1, _, h3, h4⟩
  · omega
  · refine ⟨g, cap, hv, hb, block_lt hg, h1, fun i hi => ?_⟩
    have h5 : cur.toList[i]? = some (.int .u8 (T.getD i 0)) := by
      have : (cur.toList.take (T.length * 1))[i]? = (u8s T)[i]? := by rw [h4]
      rw [List.getElem?_take, if_pos (by omega)] at this
      rw [this, u8s, List.getElem?_map, List.getD_eq_getElem?_getD, List.getElem?_eq_getElem hi]
      rfl
    have := cell_of_block hg i
    rw [this]
    simpa using h5
end Go.Proofs.YbulkdfkFmt
