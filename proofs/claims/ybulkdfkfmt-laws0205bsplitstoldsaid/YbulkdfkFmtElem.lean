import Derived.Test.YbulkdfkFmtScanF
namespace Go.Proofs.YbulkdfkFmt
open Go.RowKit
set_option linter.unusedVariables false

/-- The table's texts. -/
def elem : Nat → List Int
  | 0 => [48]
  | 1 => [45, 49, 46, 53, 101, 43, 51]
  | 2 => [34, 97, 34]
  | 3 => [116, 114, 117, 101]
  | 4 => [102, 97, 108, 115, 101]
  | 5 => [110, 117, 108, 108]
  | 6 => [91, 93]
  | 7 => [123, 34, 107, 34, 58, 91, 49, 44, 50, 93, 125]
  | 8 => [34, 120, 92, 34, 121, 34]
  | _ => [91, 49, 44, 32, 123, 125, 32, 44, 34, 122, 34, 93]

/-- What may stand behind an element: white space, a comma, the closing bracket. -/
def good (c : Int) : Bool := isSp c || c == 44 || c == 93

theorem good_no {c : Int} (h : good c = true) : isDig c = false ∧ c ≠ 46 ∧ c ≠ 101 ∧ c ≠ 69 := by
  simp [good, isSp] at h
  refine ⟨?_, by omega, by omega, by omega⟩
  simp [isDig]; omega

theorem Sp.here {T : List Int} {s : Nat} {c : Int} (hs : s < T.length) (h : T.getD s 0 = c) (hc : isSp c = false) : Sp T s s := ⟨Nat.le_refl _, hs, fun i h1 h2 => by omega, by rw [h]; exact hc⟩

theorem Seg.sub {T : List Int} {s : Nat} {l : List Int} (h : Seg T s l) (j : Nat) (l' : List Int) (hl : (l.drop j).take l'.length = l') (hj : j + l'.length ≤ l.length) : Seg T (s + j) l' := by
  refine ⟨by have := h.1; omega, fun i hi => ?_⟩
  rw [Nat.add_assoc, h.2 (j + i) (by omega)]
  conv => rhs; rw [← hl]
  simp [List.getD, hi, List.getElem?_drop]

theorem Seg.get {T : List Int} {s : Nat} {l : List Int} (h : Seg T s l) (j : Nat) (hj : j < l.length) : T.getD (s + j) 0 = l.getD j 0 := h.2 j hj

section
variable {T : List Int} {d C k : Nat}

theorem strTrue : strOfNums [116, 114, 117, 101] = ⟨#[116, 114, 117, 101]⟩ := by decide
theorem strFalse : strOfNums [102, 97, 108, 115, 101] = ⟨#[102, 97, 108, 115, 101]⟩ := by decide
theorem strNull : strOfNums [110, 117, 108, 108] = ⟨#[110, 117, 108, 108]⟩ := by decide

/-- One digit. -/
theorem val_digit {a s : Nat} (dep : Int) (hd0 : 0 ≤ dep) (hd1 : dep ≤ 9000) (c : Int) (hsp : Sp T a s) (hx : T.getD s 0 = c) (hc : c = 48 ∨ c = 49 ∨ c = 50) (ho : s + 1 < T.length) (hg : good (T.getD (s + 1) 0) = true) (W : World) (hS : Sc T d C k W a) :
    Val T d C k dep W s (s + 1) := by
  obtain ⟨g1, g2, g3, g4⟩ := good_no hg
  rcases hc with rfl | rfl | rfl
  · exact value_digit dep hd0 hd1 hS hsp 48 hx rfl (by omega) (by omega) fun W' hS' => number_zero hS' ho hx g2 g3 g4
  · exact value_digit dep hd0 hd1 hS hsp 49 hx rfl (by omega) (by omega) fun W' hS' => number_one 49 hS' ho hx (by decide) (by decide) rfl g1 g2 g3 g4
  · exact value_digit dep hd0 hd1 hS hsp 50 hx rfl (by omega) (by omega) fun W' hS' => number_one 50 hS' ho hx (by decide) (by decide) rfl g1 g2 g3 g4

/-- A string. -/
theorem val_str {a s : Nat} (dep : Int) (hd0 : 0 ≤ dep) (hd1 : dep ≤ 9000) (l : List Int) (hsp : Sp T a s) (hseg : Seg T s (34 :: (l ++ [34]))) (hb : body l = true) (W : World) (hS : Sc T d C k W a) :
    Val T d C k dep W s (s + l.length + 2) := by
  have h1 := hseg.1
  simp at h1
  exact value_str dep hd0 hd1 hS hsp hseg.head (by omega) (by omega) fun W' hS' => (str_to l hS' hseg hb).mono fun x w' ⟨h, hA⟩ => ⟨⟨_, h⟩, hA⟩

theorem val_lit {a s : Nat} (dep : Int) (hd0 : 0 ≤ dep) (hd1 : dep ≤ 9000) (j : Nat) (hj : j = 3 ∨ j = 4 ∨ j = 5) (hsp : Sp T a s) (hseg : Seg T s (elem j)) (W : World) (hS : Sc T d C k W a) :
    Val T d C k dep W s (s + (elem j).length) := by
  have h1 := hseg.1
  rcases hj with rfl | rfl | rfl
  · exact value_true dep hd0 hd1 hS hsp hseg.head (by simp [elem]) h1 fun W' hS' => by have := literal_to _ hS' hseg (by decide); rwa [show strOfNums (elem 3) = _ from strTrue] at this
  · exact value_false dep hd0 hd1 hS hsp hseg.head (by simp [elem]) h1 fun W' hS' => by have := literal_to _ hS' hseg (by decide); rwa [show strOfNums (elem 4) = _ from strFalse] at this
  · exact value_null dep hd0 hd1 hS hsp hseg.head (by simp [elem]) h1 fun W' hS' => by have := literal_to _ hS' hseg (by decide); rwa [show strOfNums (elem 5) = _ from strNull] at this

/-- "[]" -/
theorem val_none {a s : Nat} (dep : Int) (hd0 : 0 ≤ dep) (hd1 : dep ≤ 8000) (hsp : Sp T a s) (hseg : Seg T s [91, 93]) (W : World) (hS : Sc T d C k W a) : Val T d C k dep W s (s + 2) := by
  have h1 := hseg.1
  simp at h1
  exact value_arr dep hd0 (by omega) hS hsp hseg.head (by omega) (by omega) fun W' hS' => array_none (dep + 1) (by omega) hS' (Sp.here (by omega) hseg.tail.head rfl) hseg.tail.head
/-- "{}" -/
theorem val_void {a s : Nat} (dep : Int) (hd0 : 0 ≤ dep) (hd1 : dep ≤ 8000) (hsp : Sp T a s) (hseg : Seg T s [123, 125]) (W : World) (hS : Sc T d C k W a) : Val T d C k dep W s (s + 2) := by
  have h1 := hseg.1
  simp at h1
  exact value_obj dep hd0 (by omega) hS hsp hseg.head (by omega) (by omega) fun W' hS' => object_none (dep + 1) (by omega) hS' (Sp.here (by omega) hseg.tail.head rfl) hseg.tail.head
/-- "[1,2]" -/
theorem val_pair {a s : Nat} (dep : Int) (hd0 : 0 ≤ dep) (hd1 : dep ≤ 8000) (hsp : Sp T a s) (hseg : Seg T s [91, 49, 44, 50, 93]) (W : World) (hS : Sc T d C k W a) : Val T d C k dep W s (s + 5) := by
  have h1 := hseg.1
  simp at h1
  have t1 : T.getD (s + 1) 0 = 49 := hseg.tail.head
  have t2 : T.getD (s + 2) 0 = 44 := hseg.tail.tail.head
  have t3 : T.getD (s + 3) 0 = 50 := hseg.tail.tail.tail.head
  have t4 : T.getD (s + 4) 0 = 93 := hseg.tail.tail.tail.tail.head
  refine value_arr dep hd0 (by omega) hS hsp hseg.head (by omega) (by omega) fun W' hS' => array_some (n := 1) (dep + 1) (by omega) hS' (Sp.here (by omega) t1 rfl) (by rw [t1]; decide) fun wB p hB => ?_
  refine ⟨s + 2, s + 2, item_arr hB _ _ _ ⟨_, fun W hS => val_digit (dep + 1) (by omega) (by omega) 49 (Sp.here (by omega) t1 rfl) t1 (by decide) (by omega) (by rw [t2]; rfl) W hS⟩, Sp.here (by omega) t2 rfl, t2, ?_⟩
  exact ⟨s + 4, s + 4, item_arr hB _ _ _ ⟨_, fun W hS => val_digit (dep + 1) (by omega) (by omega) 50 (Sp.here (by omega) t3 rfl) t3 (by decide) (by omega) (by rw [t4]; rfl) W hS⟩, Sp.here (by omega) t4 rfl, t4, rfl⟩

/-- Each element of the table, read by 'value'. -/
theorem val_elem {a s : Nat} (dep : Int) (hd0 : 0 ≤ dep) (hd1 : dep ≤ 7000) (j : Nat) (hsp : Sp T a s) (hseg : Seg T s (elem j)) (hlt : s + (elem j).length < T.length) (hg : good (T.getD (s + (elem j).length) 0) = true) (W : World) (hS : Sc T d C k W a) :
    Val T d C k dep W s (s + (elem j).length) := by
  match j, hseg, hlt, hg with
  | 0, hseg, hlt, hg => exact val_digit dep hd0 (by omega) 48 hsp hseg.head (by decide) hlt hg W hS
  | 1, hseg, hlt, hg => exact value_minus dep hd0 (by omega) hS hsp hseg.head (by simp [elem]) hseg.1 fun W' hS' => number_full hS' hseg hlt (good_no hg).1
  | 2, hseg, hlt, hg => exact val_str dep hd0 (by omega) [97] hsp hseg rfl W hS
  | 3, hseg, hlt, hg => exact val_lit dep hd0 (by omega) 3 (by decide) hsp hseg W hS
  | 4, hseg, hlt, hg => exact val_lit dep hd0 (by omega) 4 (by decide) hsp hseg W hS
  | 5, hseg, hlt, hg => exact val_lit dep hd0 (by omega) 5 (by decide) hsp hseg W hS
  | 6, hseg, hlt, hg => exact val_none dep hd0 (by omega) hsp hseg W hS
  | 7, hseg, hlt, hg =>
    have h1 := hseg.1
    simp [elem] at h1
    have t1 : T.getD (s + 1) 0 = 34 := hseg.get 1 (by decide)
    have t4 : T.getD (s + 4) 0 = 58 := hseg.get 4 (by decide)
    have t5 : T.getD (s + 5) 0 = 91 := hseg.get 5 (by decide)
    have t10 : T.getD (s + 10) 0 = 125 := hseg.get 10 (by decide)
    refine value_obj dep hd0 (by omega) hS hsp hseg.head (by simp [elem]) hseg.1 fun W' hS' => object_some (n := 0) (dep + 1) (by omega) hS' (Sp.here (by omega) t1 rfl) (by rw [t1]; decide) fun wB p hB => ?_
    exact ⟨s + 10, s + 10, item_obj hB _ _ _ [107] (s + 1) (s + 4) (Sp.here (by omega) t1 rfl) (hseg.sub 1 _ rfl (by decide)) rfl (show Sp T (s + 1 + [(107 : Int)].length + 2) (s + 4) from Sp.here (s := s + 4) (by omega) t4 rfl) t4
      ⟨_, fun W hS => val_pair (dep + 1) (by omega) (by omega) (Sp.here (by omega) t5 rfl) (hseg.sub 5 _ rfl (by decide)) W hS⟩, Sp.here (by omega) t10 rfl, t10, rfl⟩
  | 8, hseg, hlt, hg => exact val_str dep hd0 (by omega) [120, 92, 34, 121] hsp hseg rfl W hS
  | j + 9, hseg, hlt, hg =>
    have h1 := hseg.1
    simp [elem] at h1
    have t1 : T.getD (s + 1) 0 = 49 := hseg.get 1 (by simp [elem])
    have t2 : T.getD (s + 2) 0 = 44 := hseg.get 2 (by simp [elem])
    have t3 : T.getD (s + 3) 0 = 32 := hseg.get 3 (by simp [elem])
    have t4 : T.getD (s + 4) 0 = 123 := hseg.get 4 (by simp [elem])
    have t6 : T.getD (s + 6) 0 = 32 := hseg.get 6 (by simp [elem])
    have t7 : T.getD (s + 7) 0 = 44 := hseg.get 7 (by simp [elem])
    have t8 : T.getD (s + 8) 0 = 34 := hseg.get 8 (by simp [elem])
    have t11 : T.getD (s + 11) 0 = 93 := hseg.get 11 (by simp [elem])
    refine value_arr dep hd0 (by omega) hS hsp hseg.head (by simp [elem]) hseg.1 fun W' hS' => array_some (n := 2) (dep + 1) (by omega) hS' (Sp.here (by omega) t1 rfl) (by rw [t1]; decide) fun wB p hB => ?_
    refine ⟨s + 2, s + 2, item_arr hB _ _ _ ⟨_, fun W hS => val_digit (dep + 1) (by omega) (by omega) 49 (Sp.here (by omega) t1 rfl) t1 (by decide) (by omega) (by rw [t2]; rfl) W hS⟩, Sp.here (by omega) t2 rfl, t2, ?_⟩
    refine ⟨s + 6, s + 7, item_arr hB _ _ _ ⟨_, fun W hS => val_void (s := s + 4) (dep + 1) (by omega) (by omega) ⟨by omega, by omega, fun i h1 h2 => ?_, by rw [t4]; rfl⟩ (hseg.sub 4 _ rfl (by simp [elem])) W hS⟩, ⟨by omega, by omega, fun i h1 h2 => ?_, by rw [t7]; rfl⟩, t7, ?_⟩
    · obtain rfl : i = s + 3 := by omega
      rw [t3]; rfl
    · obtain rfl : i = s + 6 := by omega
      rw [t6]; rfl
    · exact ⟨s + 11, s + 11, item_arr hB _ _ _ ⟨_, fun W hS => val_str (dep + 1) (by omega) (by omega) [122] (Sp.here (by omega) t8 rfl) (hseg.sub 8 _ rfl (by simp [elem])) rfl W hS⟩, Sp.here (by omega) t11 rfl, t11, rfl⟩
end
end Go.Proofs.YbulkdfkFmt
