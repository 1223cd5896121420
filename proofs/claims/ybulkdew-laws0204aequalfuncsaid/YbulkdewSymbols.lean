import Derived.Test.YbulkdewSnake
namespace Go.Proofs.Ybulkdew
open Go.RowKit
set_option linter.unusedVariables false

/-- In wr the row of L numbers at the head of block g holds R; since w0 nothing but that block has turned. -/
structure Rw (w0 wr : World) (B g L cap : Nat) (R : List Int) : Prop where
  own : wr.ownsRow B 3 1 (.slice (some ⟨g, 0, none⟩) L cap) L (R.map (Value.int .i64))
  gr : w0.grownBy wr (some g)

theorem grownBy_trans {a b c : World} {r : Option Nat} (h : a.grownBy b r) (k : b.grownBy c r) : a.grownBy c r :=
  ⟨k.os.trans h.os, k.tape.trans h.tape, k.output.trans h.output, Nat.le_trans h.size k.size, fun i hi hne => (k.block i (Nat.lt_of_lt_of_le hi h.size) hne).trans (h.block i hi hne)⟩
theorem grownBy_refl (w : World) (r : Option Nat) : w.grownBy w r := ⟨rfl, rfl, rfl, Nat.le_refl _, fun _ _ _ => rfl⟩

section
variable {w0 wr : World} {B g L cap : Nat} {R : List Int}
theorem Rw.length (h : Rw w0 wr B g L cap R) : R.length = L := by have := h.own.1; simpa using this
theorem Rw.drew (h : Rw w0 wr B g L cap R) (q : Nat) : Rw w0 (wr.drewN q) B g L cap R := ⟨h.own, ⟨h.gr.os, h.gr.tape, h.gr.output, h.gr.size, h.gr.block⟩⟩
theorem Rw.cell (h : Rw w0 wr B g L cap R) (i : Nat) (hi : i < L) : wr.cell? ⟨g, i, none⟩ = some (.int .i64 (R.getD i 0)) := by
  have hl := h.length
  rw [h.own.cellAt i (by omega), List.getElem?_map, List.getD_eq_getElem?_getD, List.getElem?_eq_getElem (by omega)]
  rfl
theorem Rw.frozen (h : Rw w0 wr B g L cap R) (i : Nat) : wr.frozen? ⟨g, i, none⟩ = false := h.own.frozenAt i
theorem Rw.set (h : Rw w0 wr B g L cap R) (i : Nat) (v : Int) : Rw w0 (wr.setCell ⟨g, i, none⟩ (.int .i64 v)) B g L cap (R.set i v) := by
  obtain ⟨h1, h2⟩ := h.own.stored i (.int .i64 v)
  refine ⟨?_, grownBy_trans h.gr h2⟩
  rw [List.map_set]
  exact h1
end

/-- The address leads to no cell of block g. -/
def Away (g : Nat) (a : Option Addr) : Prop := ∀ x, a = some x → x.block ≠ g

theorem View.grown {k : IntKind} {w w' : World} {a : Option Addr} {len : Nat} {zs : List Int} {g : Nat} (h : View k w a len zs) (hg : w.grownBy w' (some g)) (ha : Away g a) : View k w' a len zs :=
  ⟨h.size, fun hl => by
    obtain ⟨b, off, e, hlt, hc⟩ := h.cells hl
    exact ⟨b, off, e, Nat.lt_of_lt_of_le hlt hg.size, fun j hj => hg.cell (hc j hj) (by have := ha _ e; simpa using this)⟩⟩

theorem lesser_bd {a b lo hi : Int} (h1 : lo ≤ a) (h2 : lo ≤ b) (h3 : b ≤ hi) : lo ≤ lesser a b ∧ lesser a b ≤ hi := by
  unfold lesser; split <;> omega

theorem getD_set_ne (r : List Int) (i j : Nat) (v : Int) (h : i ≠ j) : (r.set i v).getD j 0 = r.getD j 0 := by
  rw [getD_set, if_neg (fun hh => h hh.1)]

/-- One diagonal of the round, as backwardSymbols reckons it. -/
theorem one_step (c : Parts) (R : List Int) (p' t i : Nat) (lo lf ty mid : Int) (hlo : lo = (p' : Int) - c.m) (hi : i = 4 * t + 1) (hlf : lf = (c.rnd R (p' + 1) (2 * t)).getD (p' + 4 * t) 0) (hty : ty = -lo - 4 * t)
    (hmid : (c.rnd R (p' + 1) (2 * t)).getD (p' + (i + 1)) 0 = mid) :
    c.rnd R (p' + 1) (2 * t + 1) = (c.rnd R (p' + 1) (2 * t)).set (p' + i) (c.snk (lesser (mid - 1) lf) (lesser (mid - 1) lf + ty)) := by
  subst hi
  rw [Parts.rnd]
  have e1 : p' + 1 + 2 * (2 * t) = p' + (4 * t + 1) := by omega
  rw [e1]
  congr 1
  unfold Parts.val
  have e2 : p' + (4 * t + 1) + 1 = p' + (4 * t + 1 + 1) := by omega
  have e3 : p' + (4 * t + 1) - 1 = p' + 4 * t := by omega
  rw [e2, e3, hmid, ← hlf]
  congr 1
  omega

/-- Two diagonals of the round. -/
theorem two_steps (c : Parts) (R : List Int) (p' t i : Nat) (lo lf ty mid rig x1 v1 x2 v2 : Int) (hlo : lo = (p' : Int) - c.m) (hi : i = 4 * t + 1) (hlf : lf = (c.rnd R (p' + 1) (2 * t)).getD (p' + 4 * t) 0) (hty : ty = -lo - 4 * t)
    (hmid : (c.rnd R (p' + 1) (2 * t)).getD (p' + (i + 1)) 0 = mid) (hrig : (c.rnd R (p' + 1) (2 * t)).getD (p' + (i + 3)) 0 = rig)
    (hx1 : lesser (mid - 1) lf = x1) (hv1 : c.snk x1 (x1 + ty) = v1) (hx2 : lesser (rig - 1) mid = x2) (hv2 : c.snk x2 (x2 + ty - 2) = v2) :
    c.rnd R (p' + 1) (2 * (t + 1)) = ((c.rnd R (p' + 1) (2 * t)).set (p' + i) v1).set (p' + (i + 2)) v2 ∧ rig = (c.rnd R (p' + 1) (2 * (t + 1))).getD (p' + 4 * (t + 1)) 0 := by
  have h1 := one_step c R p' t i lo lf ty mid hlo hi hlf hty hmid
  rw [hx1, hv1] at h1
  have h2 : c.rnd R (p' + 1) (2 * (t + 1)) = ((c.rnd R (p' + 1) (2 * t)).set (p' + i) v1).set (p' + (i + 2)) v2 := by
    rw [show 2 * (t + 1) = 2 * t + 1 + 1 by omega, Parts.rnd, h1]
    have e1 : p' + 1 + 2 * (2 * t + 1) = p' + (i + 2) := by omega
    rw [e1]
    congr 1
    unfold Parts.val
    have e2 : p' + (i + 2) + 1 = p' + (i + 3) := by omega
    have e3 : p' + (i + 2) - 1 = p' + (i + 1) := by omega
    rw [e2, e3, getD_set_ne _ _ _ _ (by omega), getD_set_ne _ _ _ _ (by omega), hrig, hmid, hx2, ← hv2]
    congr 1
    omega
  refine ⟨h2, ?_⟩
  rw [h2, getD_set_ne _ _ _ _ (by omega), getD_set_ne _ _ _ _ (by omega), ← hrig]
  congr 1
  omega

set_option maxHeartbeats 1000000 in
set_option maxRecDepth 100000 in
theorem symbols (aa ab : Option Addr) (na nb ca cb : Nat) (c : Parts) (w : World) (B g L cap p' lv cv : Nat) (R : List Int) (lo : Int)
    (va : View .i64 w aa na c.a) (vb : View .i64 w ab nb c.b) (ga : Away g aa) (gb : Away g ab) (hna : na ≤ 300) (hnb : nb ≤ 300)
    (hR : Rw w w B g L cap R) (hb : Bd (-1) 1000 R) (hL : L ≤ 1000) (hlv2 : 2 ≤ lv) (hp : p' + lv ≤ L) (hlo : lo = (p' : Int) - c.m) :
    Calls Yba.prog 17 #[.slice aa na ca, .slice ab nb cb, .slice (some ⟨g, p', none⟩) lv cv, .int .i64 lo] w
      fun e w' => e = .returned (.tuple #[]) ∧ Rw w w' B g L cap (c.rnd R (p' + 1) ((lv - 1) / 2)) := by
  have g0 := hR.cell p' (by omega)
  have b0 := hb p'
  have Hm : Hid (c.m = nb) := by show (c.b.length : Int) = nb; rw [vb.size]
  have hlo1 : -300 ≤ lo ∧ lo ≤ 1000 := by have := Hm.out; omega
  have HL : Hid (lo = (p' : Int) - c.m) := hlo
  have HB : Hid (Bd (-1) 1000 R) := hb
  clear hlo hb
  generalize hleft : R.getD p' 0 = left at g0 b0
  have Hleft : Hid (R.getD p' 0 = left) := hleft
  clear hleft
  have q0 : 0 < lv := by omega
  go_enter Yba.func17, Yba.ntmps17
  go_wp2_with fail
  go_loopg [8, 9, 10] lv (fun gh s8 s9 s10 wr => ∃ (t i : Nat) (lf ty : Int), s8 = .int .i64 lf ∧ s9 = .int .i64 ty ∧ s10 = .int .i64 i ∧ lv - i ≤ gh ∧ i ≤ lv ∧ -1000 ≤ lf ∧ lf ≤ 1000 ∧ -3000 ≤ ty ∧ ty ≤ 3000 ∧
    Hid (i = 4 * t + 1 ∧ lf = (c.rnd R (p' + 1) (2 * t)).getD (p' + 4 * t) 0 ∧ ty = -lo - 4 * t) ∧ Rw w wr B g L cap (c.rnd R (p' + 1) (2 * t)))
  case atStart => exact ⟨0, 1, left, -lo, rfl, rfl, rfl, by omega, by omega, by omega, by omega, by omega, by omega, ⟨rfl, Hleft.out.symm, by omega⟩, hR⟩
  case round =>
    obtain ⟨t, i, lf, ty, rfl, rfl, rfl, hg, hi, l1, l2, t1, t2, HI, hW⟩ := hrel
    by_cases hlt : (i : Int) < (lv : Int) - 3
    · have hbd := c.rnd_bd R (p' + 1) HB.out (by omega) (2 * t)
      obtain ⟨hi4, hlf, hty⟩ := HI.out
      have m1 := hW.cell (p' + (i + 1)) (by omega)
      have m3 := hW.cell (p' + (i + 3)) (by omega)
      have bm1 := hbd (p' + (i + 1))
      have bm3 := hbd (p' + (i + 3))
      generalize hmid : (c.rnd R (p' + 1) (2 * t)).getD (p' + (i + 1)) 0 = mid at m1 bm1
      generalize hrig : (c.rnd R (p' + 1) (2 * t)).getD (p' + (i + 3)) 0 = rig at m3 bm3
      have HMR : Hid ((c.rnd R (p' + 1) (2 * t)).getD (p' + (i + 1)) 0 = mid ∧ (c.rnd R (p' + 1) (2 * t)).getD (p' + (i + 3)) 0 = rig) := ⟨hmid, hrig⟩
      have tb : (t : Int) ≤ 300 := by omega
      clear hmid hrig hi4 hlf hty hbd
      go_wp2_with fail
      go_quiet (fail)
      go_wp2_with fail
      refine (minOf_any (mid - 1) lf _ (by omega) (by omega)).mono ?_
      rintro e w1 ⟨rfl, rfl⟩
      have bx := lesser_bd (a := mid - 1) (b := lf) (lo := -1000) (hi := 1000) (by omega) (by omega) (by omega)
      generalize hx1 : lesser (mid - 1) lf = x1 at *
      have HX1 : Hid (lesser (mid - 1) lf = x1) := hx1
      clear hx1
      have hW1 := hW.drew nq
      go_wp2_with fail
      refine (snakeB aa ab na nb ca cb c x1 (x1 + ty) _ (va.grown hW1.gr ga) (vb.grown hW1.gr gb) (by omega) (by omega) (by omega) (by omega)).mono ?_
      rintro e w2 ⟨rfl, q2, hw2⟩
      have hW2 := hW1.drew q2
      rw [← hw2] at hW2
      have bs1 := c.snk_bd x1 (x1 + ty)
      generalize hv1 : c.snk x1 (x1 + ty) = v1 at *
      have HV1 : Hid (c.snk x1 (x1 + ty) = v1) := hv1
      clear hv1 hw2 hW1 hW m1 m3
      have k1 := hW2.cell (p' + i) (by omega)
      have f1 := hW2.frozen (p' + i)
      have hW3 := hW2.set (p' + i) v1
      go_wp2_with fail
      refine (minOf_any (rig - 1) mid _ (by omega) (by omega)).mono ?_
      rintro e w1 ⟨rfl, rfl⟩
      have bx2 := lesser_bd (a := rig - 1) (b := mid) (lo := -1000) (hi := 1000) (by omega) (by omega) (by omega)
      generalize hx2 : lesser (rig - 1) mid = x2 at *
      have HX2 : Hid (lesser (rig - 1) mid = x2) := hx2
      clear hx2
      go_wp2_with fail
      refine (snakeB aa ab na nb ca cb c x2 (x2 + ty - 2) _ (va.grown hW3.gr ga) (vb.grown hW3.gr gb) (by omega) (by omega) (by omega) (by omega)).mono ?_
      rintro e w4 ⟨rfl, q4, hw4⟩
      have hW4 := hW3.drew q4
      rw [← hw4] at hW4
      generalize hv2 : c.snk x2 (x2 + ty - 2) = v2 at *
      have HV2 : Hid (c.snk x2 (x2 + ty - 2) = v2) := hv2
      clear hv2 hw4 hW3 hW2 k1 f1
      have k2 := hW4.cell (p' + (i + 2)) (by omega)
      have f2 := hW4.frozen (p' + (i + 2))
      have hW5 := hW4.set (p' + (i + 2)) v2
      obtain ⟨ts1, ts2⟩ := two_steps c R p' t i lo lf ty mid rig x1 v1 x2 v2 HL.out HI.out.1 HI.out.2.1 HI.out.2.2 HMR.out.1 HMR.out.2 HX1.out HV1.out HX2.out HV2.out
      rw [← ts1] at hW5
      have HT : Hid _ := ts2
      clear ts1 ts2 hW4
      go_wp2_with fail
      go_roundg (lv - (i + 4))
      case measure => omega
      case rel =>
        refine ⟨t + 1, i + 4, rig, ty - 4, rfl, rfl, by go_num, by omega, by omega, by omega, by omega, by have := HI.out; omega, by omega, ⟨by have := HI.out; omega, HT.out, by have := HI.out; omega⟩, hW5⟩
    · by_cases hlt2 : (i : Int) < (lv : Int) - 1
      · have hbd := c.rnd_bd R (p' + 1) HB.out (by omega) (2 * t)
        obtain ⟨hi4, hlf, hty⟩ := HI.out
        have m1 := hW.cell (p' + (i + 1)) (by omega)
        have bm1 := hbd (p' + (i + 1))
        generalize hmid : (c.rnd R (p' + 1) (2 * t)).getD (p' + (i + 1)) 0 = mid at m1 bm1
        have HMR : Hid ((c.rnd R (p' + 1) (2 * t)).getD (p' + (i + 1)) 0 = mid) := hmid
        have tb : (t : Int) ≤ 300 := by omega
        clear hmid hi4 hlf hty hbd
        go_wp2_with fail
        refine (minOf_any (mid - 1) lf _ (by omega) (by omega)).mono ?_
        rintro e w1 ⟨rfl, rfl⟩
        have bx := lesser_bd (a := mid - 1) (b := lf) (lo := -1000) (hi := 1000) (by omega) (by omega) (by omega)
        generalize hx1 : lesser (mid - 1) lf = x1 at *
        have HX1 : Hid (lesser (mid - 1) lf = x1) := hx1
        clear hx1
        go_wp2_with fail
        refine (snakeB aa ab na nb ca cb c x1 (x1 + ty) _ (va.grown hW.gr ga) (vb.grown hW.gr gb) (by omega) (by omega) (by omega) (by omega)).mono ?_
        rintro e w2 ⟨rfl, q2, hw2⟩
        have hW2 := hW.drew q2
        rw [← hw2] at hW2
        generalize hv1 : c.snk x1 (x1 + ty) = v1 at *
        have HV1 : Hid (c.snk x1 (x1 + ty) = v1) := hv1
        clear hv1 hw2 hW m1
        have k1 := hW2.cell (p' + i) (by omega)
        have f1 := hW2.frozen (p' + i)
        have hW3 := hW2.set (p' + i) v1
        have ts := one_step c R p' t i lo lf ty mid HL.out HI.out.1 HI.out.2.1 HI.out.2.2 HMR.out
        rw [HX1.out, HV1.out] at ts
        rw [← ts] at hW3
        clear ts hW2
        go_wp2_with fail
        go_end0
        have hJ : (lv - 1) / 2 = 2 * t + 1 := by have := HI.out; omega
        rw [hJ]
        exact ⟨rfl, hW3⟩
      · go_wp2_with fail
        go_end0
        have hJ : (lv - 1) / 2 = 2 * t := by have := HI.out; omega
        rw [hJ]
        exact ⟨rfl, hW⟩
end Go.Proofs.Ybulkdew
