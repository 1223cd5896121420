import Derived.Test.YbulkdfkFmtBuild
namespace Go.Proofs.YbulkdfkFmt
open Go.RowKit
set_option linter.unusedVariables false

/-- The element that sel's octet i picks. -/
def pick (zs : List Int) (i : Nat) : Nat := (zs.getD i 0 % 10).toNat

/-- The text behind i rounds (n in all), without the closing bracket. -/
def pre (es sp : Nat → List Int) (n : Nat) : Nat → List Int
  | 0 => 91 :: sp 0
  | i + 1 => pre es sp n i ++ es i ++ sp (1 + 2 * i) ++ (if i + 1 < n then 44 :: sp (2 + 2 * i) else [])

theorem sps_sp (z : Int) : ∀ c ∈ sps z, isSp c = true := by
  intro c hc
  unfold sps at hc
  split at hc
  · cases hc
  split at hc
  · simp at hc; subst hc; rfl
  split at hc
  · simp at hc; subst hc; rfl
  · simp at hc; rcases hc with rfl | rfl | rfl <;> rfl
theorem sps_len (z : Int) : (sps z).length ≤ 3 := by
  unfold sps
  repeat' split
  all_goals decide
theorem spAt_sp (zs : List Int) (i : Nat) : ∀ c ∈ spAt zs i, isSp c = true := by
  intro c hc
  unfold spAt at hc
  split at hc
  · cases hc
  · exact sps_sp _ c hc
theorem spAt_len (zs : List Int) (i : Nat) : (spAt zs i).length ≤ 3 := by
  unfold spAt
  split
  · decide
  · exact sps_len _
theorem elem_len (j : Nat) : 0 < (elem j).length ∧ (elem j).length ≤ 12 := by
  match j with
  | 0 => decide
  | 1 => decide
  | 2 => decide
  | 3 => decide
  | 4 => decide
  | 5 => decide
  | 6 => decide
  | 7 => decide
  | 8 => decide
  | _ + 9 => exact ⟨by simp [elem], by simp [elem]⟩
/-- An element begins with an octet that is no white space and no closing bracket. -/
theorem elem_head (j : Nat) : ∃ c r, elem j = c :: r ∧ isSp c = false ∧ c ≠ 93 := by
  match j with
  | 0 => exact ⟨_, _, rfl, rfl, by decide⟩
  | 1 => exact ⟨_, _, rfl, rfl, by decide⟩
  | 2 => exact ⟨_, _, rfl, rfl, by decide⟩
  | 3 => exact ⟨_, _, rfl, rfl, by decide⟩
  | 4 => exact ⟨_, _, rfl, rfl, by decide⟩
  | 5 => exact ⟨_, _, rfl, rfl, by decide⟩
  | 6 => exact ⟨_, _, rfl, rfl, by decide⟩
  | 7 => exact ⟨_, _, rfl, rfl, by decide⟩
  | 8 => exact ⟨_, _, rfl, rfl, by decide⟩
  | _ + 9 => exact ⟨_, _, rfl, rfl, by decide⟩

theorem Seg.of {T A l R : List Int} (h : T = A ++ (l ++ R)) : Seg T A.length l := by
  subst h
  refine ⟨by simp, fun j hj => ?_⟩
  simp [List.getD, List.getElem?_append_right, List.getElem?_append_left hj]

theorem getD_of {T A R : List Int} {c : Int} (h : T = A ++ (c :: R)) : T.getD A.length 0 = c := by
  subst h
  simp [List.getD]
/-- White space, then another octet. -/
theorem Sp.of {T A l R : List Int} {c : Int} (h : T = A ++ (l ++ (c :: R))) (hl : ∀ x ∈ l, isSp x = true) (hc : isSp c = false) : Sp T A.length (A.length + l.length) := by
  have hs := Seg.of h
  refine ⟨by omega, by subst h; simp, fun i h1 h2 => ?_, ?_⟩
  · have h3 := hs.2 (i - A.length) (by omega)
    rw [show A.length + (i - A.length) = i by omega] at h3
    rw [h3]
    apply hl
    simp only [List.getD_eq_getElem?_getD]
    rw [List.getElem?_eq_getElem (by omega)]
    exact List.getElem_mem _
  · have := getD_of (T := T) (A := A ++ l) (R := R) (c := c) (by rw [h]; simp)
    rw [List.length_append] at this
    rw [this]; exact hc

theorem good_of {T A l R : List Int} {c : Int} (h : T = A ++ (l ++ (c :: R))) (hl : ∀ x ∈ l, isSp x = true) (hc : good c = true) : good (T.getD A.length 0) = true := by
  cases l with
  | nil => rw [getD_of (R := R) (c := c) h]; exact hc
  | cons x l =>
    rw [getD_of (c := x) (R := l ++ c :: R) h]
    simp [good, hl x (List.mem_cons_self ..)]

section
variable {es sp : Nat → List Int} {n : Nat}
theorem pre_ext {j m : Nat} (h : j ≤ m) : ∃ R, pre es sp n m = pre es sp n j ++ R := by
  induction m with
  | zero => obtain rfl : j = 0 := by omega
            exact ⟨[], by simp⟩
  | succ m ih =>
    rcases Nat.lt_or_ge j (m + 1) with h1 | h1
    · obtain ⟨R, hR⟩ := ih (by omega)
      exact ⟨_, by rw [pre, hR]; simp only [List.append_assoc]; rfl⟩
    · obtain rfl : j = m + 1 := by omega
      exact ⟨[], by simp⟩
theorem pre_len (h1 : ∀ i, (es i).length ≤ 12) (h2 : ∀ i, (sp i).length ≤ 3) (i : Nat) : (pre es sp n i).length ≤ 4 + 19 * i := by
  induction i with
  | zero => have := h2 0; simp [pre]; omega
  | succ i ih =>
    have a1 := h1 i
    have a2 := h2 (1 + 2 * i)
    have a3 := h2 (2 + 2 * i)
    simp only [pre, List.length_append]
    split <;> simp <;> omega
end

/-- The slices that List hands back, j of them. -/
def valsOf (es sp : Nat → List Int) (n d C : Nat) (j : Nat) : List Value :=
  (List.range j).map fun i => .slice (some ⟨d, (pre es sp n i).length, none⟩) (es i).length (C - (pre es sp n i).length)

theorem valsOf_succ (es sp : Nat → List Int) (n d C j : Nat) : valsOf es sp n d C (j + 1) = valsOf es sp n d C j ++ [.slice (some ⟨d, (pre es sp n j).length, none⟩) (es j).length (C - (pre es sp n j).length)] := by
  simp [valsOf, List.range_succ]

/-- THE PLAIN LAW: the text that was built reads as its elements. -/
theorem laid_text (zs : List Int) (n : Nat) (hn : n ≤ 1024) (d C : Nat) (T tail : List Int) (es : Nat → List Int) (hes : ∀ i, ∃ j, es i = elem j) (hT : T = pre es (spAt zs) n n ++ (93 :: tail)) :
    Laid T C d (valsOf es (spAt zs) n d C) n ((pre es (spAt zs) n n).length + 1) := by
  -- the start
  obtain ⟨R0, hR0⟩ := pre_ext (es := es) (sp := spAt zs) (n := n) (Nat.zero_le n)
  have hhead : ∃ R, T = 91 :: R := ⟨_, by rw [hT, hR0, pre]; rfl⟩
  obtain ⟨R1, hR1⟩ := hhead
  refine ⟨by rw [hR1]; rfl, (pre es (spAt zs) n 0).length, ?_⟩
  rcases Nat.eq_zero_or_pos n with rfl | hpos
  · refine ⟨?_, .inl ⟨rfl, getD_of hT, rfl⟩⟩
    have := Sp.of (T := T) (A := [91]) (l := spAt zs 0) (R := tail) (c := 93) (by rw [hT]; simp [pre]) (spAt_sp zs 0) rfl
    have e : (pre es (spAt zs) 0 0).length = [(91 : Int)].length + (spAt zs 0).length := by simp [pre]; omega
    rw [e]
    exact this
  -- how the text lies at round j
  have hat : ∀ j, j < n → ∃ R, T = pre es (spAt zs) n j ++ (es j ++ (spAt zs (1 + 2 * j) ++ (if j + 1 < n then 44 :: (spAt zs (2 + 2 * j) ++ R) else 93 :: R))) := by
    intro j hj
    obtain ⟨R, hR⟩ := pre_ext (es := es) (sp := spAt zs) (n := n) (show j + 1 ≤ n by omega)
    by_cases h : j + 1 < n
    · refine ⟨R ++ (93 :: tail), ?_⟩
      rw [hT, hR, pre, if_pos h, if_pos h]
      simp only [List.append_assoc, List.cons_append]
    · obtain rfl : n = j + 1 := by omega
      refine ⟨tail, ?_⟩
      rw [hT, pre, if_neg h, if_neg h]
      simp only [List.append_assoc, List.nil_append]
  have hsp : ∀ j, j < n → ∃ c R, T = pre es (spAt zs) n j ++ (c :: R) ∧ isSp c = false ∧ c ≠ 93 := by
    intro j hj
    obtain ⟨R, hR⟩ := hat j hj
    obtain ⟨i, hi⟩ := hes j
    obtain ⟨c, r, hc, h1, h2⟩ := elem_head i
    rw [hi, hc] at hR
    exact ⟨c, _, hR, h1, h2⟩
  obtain ⟨c0, S0, hS0, hc0, hc1⟩ := hsp 0 hpos
  refine ⟨?_, .inr ⟨hpos, by rw [getD_of hS0]; exact hc1, ?_⟩⟩
  · have := Sp.of (T := T) (A := [91]) (l := spAt zs 0) (R := S0) (c := c0) (by rw [hS0]; simp [pre]) (spAt_sp zs 0) hc0
    have e : (pre es (spAt zs) n 0).length = [(91 : Int)].length + (spAt zs 0).length := by simp [pre]; omega
    rw [e]
    exact this
  -- the elements, from the last one back
  have key : ∀ m j a, m + j + 1 = n → Sp T a (pre es (spAt zs) n j).length →
      Its (fun j a b => ∃ s l, b = s + l ∧ j ≤ 100000 ∧ valsOf es (spAt zs) n d C (j + 1) = valsOf es (spAt zs) n d C j ++ [.slice (some ⟨d, s, none⟩) l (C - s)] ∧ ∀ k W, Sc T d C k W a → Val T d C k 1 W s (s + l)) T 93 m j a ((pre es (spAt zs) n n).length + 1) := by
    intro m
    induction m with
    | zero =>
      intro j a hj ha
      obtain rfl : n = j + 1 := by omega
      obtain ⟨R, hR⟩ := hat j (by omega)
      rw [if_neg (by omega)] at hR
      obtain ⟨i, hi⟩ := hes j
      have hseg : Seg T (pre es (spAt zs) (j + 1) j).length (es j) := Seg.of hR
      have hsp1 := Sp.of (T := T) (A := pre es (spAt zs) (j + 1) j ++ es j) (l := spAt zs (1 + 2 * j)) (R := R) (c := 93) (by rw [hR]; simp) (spAt_sp _ _) rfl
      rw [List.length_append] at hsp1
      refine ⟨_, _, ⟨(pre es (spAt zs) (j + 1) j).length, (es j).length, rfl, by omega, valsOf_succ _ _ _ _ _ _, fun k W hS => ?_⟩, hsp1, ?_, ?_⟩
      · rw [hi] at hseg hsp1 ⊢
        refine val_elem 1 (by omega) (by omega) i ha hseg (Nat.lt_of_le_of_lt hsp1.le hsp1.lt) ?_ W hS
        have := good_of (T := T) (A := pre es (spAt zs) (j + 1) j ++ es j) (l := spAt zs (1 + 2 * j)) (R := R) (c := 93) (by rw [hR]; simp) (spAt_sp _ _) rfl
        rwa [List.length_append, hi] at this
      · have := getD_of (T := T) (A := pre es (spAt zs) (j + 1) j ++ es j ++ spAt zs (1 + 2 * j)) (R := R) (c := 93) (by rw [hR]; simp)
        rw [List.length_append, List.length_append] at this
        exact this
      · rw [pre, if_neg (by omega)]
        simp only [List.length_append, List.length_nil]
    | succ m ih =>
      intro j a hj ha
      obtain ⟨R, hR⟩ := hat j (by omega)
      rw [if_pos (by omega)] at hR
      obtain ⟨i, hi⟩ := hes j
      have hseg : Seg T (pre es (spAt zs) n j).length (es j) := Seg.of hR
      have hsp1 := Sp.of (T := T) (A := pre es (spAt zs) n j ++ es j) (l := spAt zs (1 + 2 * j)) (R := spAt zs (2 + 2 * j) ++ R) (c := 44) (by rw [hR]; simp) (spAt_sp _ _) rfl
      rw [List.length_append] at hsp1
      refine ⟨_, _, ⟨(pre es (spAt zs) n j).length, (es j).length, rfl, by omega, valsOf_succ _ _ _ _ _ _, fun k W hS => ?_⟩, hsp1, ?_, ?_⟩
      · rw [hi] at hseg hsp1 ⊢
        refine val_elem 1 (by omega) (by omega) i ha hseg (Nat.lt_of_le_of_lt hsp1.le hsp1.lt) ?_ W hS
        have := good_of (T := T) (A := pre es (spAt zs) n j ++ es j) (l := spAt zs (1 + 2 * j)) (R := spAt zs (2 + 2 * j) ++ R) (c := 44) (by rw [hR]; simp) (spAt_sp _ _) rfl
        rwa [List.length_append, hi] at this
      · have := getD_of (T := T) (A := pre es (spAt zs) n j ++ es j ++ spAt zs (1 + 2 * j)) (R := spAt zs (2 + 2 * j) ++ R) (c := 44) (by rw [hR]; simp)
        rw [List.length_append, List.length_append] at this
        exact this
      · obtain ⟨c, S, hS, hc, _⟩ := hsp (j + 1) (by omega)
        have hsp2 := Sp.of (T := T) (A := pre es (spAt zs) n j ++ es j ++ spAt zs (1 + 2 * j) ++ [44]) (l := spAt zs (2 + 2 * j)) (R := S) (c := c) (by rw [hS, pre, if_pos (by omega)]; simp) (spAt_sp _ _) hc
        have e2 : (pre es (spAt zs) n (j + 1)).length = (pre es (spAt zs) n j ++ es j ++ spAt zs (1 + 2 * j) ++ [44]).length + (spAt zs (2 + 2 * j)).length := by
          rw [pre, if_pos (by omega)]; simp only [List.length_append, List.length_cons, List.length_nil]; omega
        rw [← e2] at hsp2
        have := ih (j + 1) _ (by omega) hsp2
        simpa only [List.length_append, List.length_cons, List.length_nil, Nat.zero_add] using this
  exact key (n - 1) 0 _ (by omega) ⟨Nat.le_refl _, by rw [hS0]; simp, fun i h1 h2 => by omega, by rw [getD_of hS0]; exact hc0⟩
end Go.Proofs.YbulkdfkFmt
