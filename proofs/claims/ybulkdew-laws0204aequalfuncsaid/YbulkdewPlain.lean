/-
  THE PLAIN LAW: no Go in sight. What one backward round does to its row.
-/
namespace Go.Proofs.Ybulkdew

/-- The parts that are compared: a[aLo:aLo+n], b[bLo:bLo+m], as lists. -/
structure Parts where
  a : List Int
  b : List Int

def Parts.n (c : Parts) : Int := c.a.length
def Parts.m (c : Parts) : Int := c.b.length

/-- May the snake at (x, y) take one step back? -/
def Parts.may (c : Parts) (x y : Int) : Bool :=
  decide (1 ≤ x) && decide (1 ≤ y) && decide (x ≤ c.n) && decide (y ≤ c.m) && (c.a.getD (x - 1).toNat 0 == c.b.getD (y - 1).toNat 0)

def Parts.go (c : Parts) : Nat → Int → Int → Int
  | 0, x, _ => x
  | f + 1, x, y => if c.may x y = true then c.go f (x - 1) (y - 1) else x

/-- Where the snake that ends at (x, y) begins. -/
def Parts.snk (c : Parts) (x y : Int) : Int := c.go x.toNat x y

theorem Parts.snk_step (c : Parts) (x y : Int) (h : c.may x y = true) : c.snk x y = c.snk (x - 1) (y - 1) := by
  have hx : 1 ≤ x := by
    unfold Parts.may at h
    simp only [Bool.and_eq_true, decide_eq_true_eq] at h
    exact h.1.1.1.1
  unfold Parts.snk
  obtain ⟨f, hf⟩ : ∃ f, x.toNat = f + 1 := ⟨x.toNat - 1, by omega⟩
  have h2 : (x - 1).toNat = f := by omega
  rw [hf, h2, Parts.go, if_pos h]

theorem Parts.snk_stop (c : Parts) (x y : Int) (h : c.may x y = false) : c.snk x y = x := by
  unfold Parts.snk
  cases hx : x.toNat with
  | zero => rfl
  | succ f => rw [Parts.go, if_neg (by rw [h]; simp)]

theorem Parts.go_bd (c : Parts) : ∀ (f : Nat) (x y : Int), c.go f x y ≤ x ∧ (x ≤ c.go f x y ∨ 0 ≤ c.go f x y) := by
  intro f
  induction f with
  | zero => intro x y; exact ⟨Int.le_refl _, .inl (Int.le_refl _)⟩
  | succ f ih =>
    intro x y
    rw [Parts.go]
    by_cases h : c.may x y = true
    · rw [if_pos h]
      have hx : 1 ≤ x := by
        unfold Parts.may at h
        simp only [Bool.and_eq_true, decide_eq_true_eq] at h
        exact h.1.1.1.1
      have := ih (x - 1) (y - 1)
      omega
    · rw [if_neg h]; omega

theorem Parts.snk_bd (c : Parts) (x y : Int) : c.snk x y ≤ x ∧ (x ≤ c.snk x y ∨ 0 ≤ c.snk x y) := c.go_bd _ x y

/-- The lesser of two numbers. -/
def lesser (a b : Int) : Int := if b < a then b else a

/-- What the round writes at index q (diagonal q - m - 1) of the row r. -/
def Parts.val (c : Parts) (r : List Int) (q : Nat) : Int :=
  c.snk (lesser (r.getD (q + 1) 0 - 1) (r.getD (q - 1) 0)) (lesser (r.getD (q + 1) 0 - 1) (r.getD (q - 1) 0) - ((q : Int) - c.m - 1))

/-- The row behind j diagonals, the first at index p. -/
def Parts.rnd (c : Parts) (r : List Int) (p : Nat) : Nat → List Int
  | 0 => r
  | j + 1 => (c.rnd r p j).set (p + 2 * j) (c.val (c.rnd r p j) (p + 2 * j))

theorem Parts.rnd_length (c : Parts) (r : List Int) (p : Nat) : ∀ j, (c.rnd r p j).length = r.length := by
  intro j
  induction j with
  | zero => rfl
  | succ j ih => rw [Parts.rnd, List.length_set, ih]

/-- Every number of the row lies between -lo and hi. -/
def Bd (lo hi : Int) (r : List Int) : Prop := ∀ i, lo ≤ r.getD i 0 ∧ r.getD i 0 ≤ hi

theorem getD_set (r : List Int) (i j : Nat) (v : Int) : (r.set i v).getD j 0 = if i = j ∧ i < r.length then v else r.getD j 0 := by
  rw [List.getD_eq_getElem?_getD, List.getD_eq_getElem?_getD, List.getElem?_set]
  by_cases h : i = j
  · subst h
    by_cases hl : i < r.length
    · simp [hl]
    · simp [hl]
  · simp [h]

theorem Bd.set {lo hi : Int} {r : List Int} (h : Bd lo hi r) {v : Int} (i : Nat) (h1 : lo ≤ v) (h2 : v ≤ hi) : Bd lo hi (r.set i v) := fun j => by
  rw [getD_set]
  split
  · exact ⟨h1, h2⟩
  · exact h j

theorem Bd.wide {lo hi lo' hi' : Int} {r : List Int} (h : Bd lo hi r) (h1 : lo' ≤ lo) (h2 : hi ≤ hi') : Bd lo' hi' r := fun j => by
  have := h j
  omega

theorem Parts.val_bd (c : Parts) (r : List Int) (q : Nat) {lo hi : Int} (h : Bd lo hi r) (h0 : lo ≤ 0) : lo - 1 ≤ c.val r q ∧ c.val r q ≤ hi := by
  unfold Parts.val
  generalize hx : lesser (r.getD (q + 1) 0 - 1) (r.getD (q - 1) 0) = x
  have b1 := h (q + 1)
  have b2 := h (q - 1)
  have hx2 : lo - 1 ≤ x ∧ x ≤ hi := by
    subst hx
    unfold lesser
    split <;> omega
  have := c.snk_bd x (x - ((q : Int) - c.m - 1))
  omega

theorem Parts.rnd_bd (c : Parts) (r : List Int) (p : Nat) {lo hi : Int} (h : Bd lo hi r) (h0 : lo ≤ 0) : ∀ j : Nat, Bd (lo - j) hi (c.rnd r p j) := by
  intro j
  induction j with
  | zero => exact h.wide (by omega) (Int.le_refl _)
  | succ j ih =>
    rw [Parts.rnd]
    have hv := c.val_bd _ (p + 2 * j) ih (by omega)
    exact (ih.wide (lo' := lo - ((j + 1 : Nat) : Int)) (by omega) (Int.le_refl _)).set _ (by omega) hv.2

/-- The round's first diagonal, and the bound of its last. -/
def lowD (n m d : Int) : Int := (if n - m - d < -m then -m else n - m - d) + ((if n - m - d < -m then -m else n - m - d) - (n - m) + d) % 2
def highD (n m d : Int) : Int := if n < n - m + d then n else n - m + d

theorem lowD_bd {n m d : Int} (hn : 0 ≤ n) (hm : 0 ≤ m) (hd : 0 ≤ d) : -m ≤ lowD n m d ∧ lowD n m d ≤ highD n m d + 1 ∧ highD n m d ≤ n ∧ -m ≤ highD n m d := by
  unfold lowD highD
  split <;> split <;> omega

/-- The row with the round's sentinels set. -/
def sent1 (n m d : Int) (r : List Int) : List Int := if lowD n m d = n - m - d ∨ lowD n m d = -m then r.set (m + lowD n m d).toNat (n + 1) else r
def sent2 (n m d : Int) (r : List Int) : List Int := if highD n m d = n - m + d ∨ highD n m d = n then (sent1 n m d r).set (m + highD n m d + 2).toNat (n + 1) else sent1 n m d r

theorem sent1_length (n m d : Int) (r : List Int) : (sent1 n m d r).length = r.length := by unfold sent1; split <;> simp
theorem sent2_length (n m d : Int) (r : List Int) : (sent2 n m d r).length = r.length := by unfold sent2; split <;> simp [sent1_length]
theorem sent1_bd {n m d : Int} {r : List Int} {lo hi : Int} (h : Bd lo hi r) (h1 : lo ≤ n + 1) (h2 : n + 1 ≤ hi) : Bd lo hi (sent1 n m d r) := by
  unfold sent1
  split
  · exact h.set _ h1 h2
  · exact h
theorem sent2_bd {n m d : Int} {r : List Int} {lo hi : Int} (h : Bd lo hi r) (h1 : lo ≤ n + 1) (h2 : n + 1 ≤ hi) : Bd lo hi (sent2 n m d r) := by
  unfold sent2
  split
  · exact (sent1_bd h h1 h2).set _ h1 h2
  · exact sent1_bd h h1 h2

/-- The index of the first diagonal; of the last one's bound; how many diagonals there are. -/
def ixLow (n m d : Int) : Nat := (m + 1 + lowD n m d).toNat
def ixHigh (n m d : Int) : Nat := (m + 1 + highD n m d).toNat
def count (n m d : Int) : Nat := (ixHigh n m d + 2 - ixLow n m d) / 2

/-- The row behind the whole round. -/
def Parts.fin (c : Parts) (d : Int) (r : List Int) : List Int := c.rnd (sent2 c.n c.m d r) (ixLow c.n c.m d) (count c.n c.m d)

end Go.Proofs.Ybulkdew
