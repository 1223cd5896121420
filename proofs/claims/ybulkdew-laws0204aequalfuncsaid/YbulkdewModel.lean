import Derived.Test.YbulkdewDiag
import Derived.Test.YbulkdewSetup
import Derived.Deep.Light
namespace Go.Proofs.Ybulkdew
open Go.RowKit
set_option linter.unusedVariables false

/-- The parts a[aLo:aLo+n], b[bLo:bLo+m]. -/
def partsOf (z0 z1 : List Int) (aLo bLo n m : Nat) : Parts := ⟨(z0.drop aLo).take n, (z1.drop bLo).take m⟩
theorem partsOf_n {z0 z1 : List Int} {aLo bLo n m : Nat} (h : aLo + n ≤ z0.length) : (partsOf z0 z1 aLo bLo n m).n = n := by
  show (((z0.drop aLo).take n).length : Int) = n
  simp; omega
theorem partsOf_m {z0 z1 : List Int} {aLo bLo n m : Nat} (h : bLo + m ≤ z1.length) : (partsOf z0 z1 aLo bLo n m).m = m := by
  show (((z1.drop bLo).take m).length : Int) = m
  simp; omega
theorem drop_take_getD (z : List Int) (lo n i : Nat) (h : i < n) : ((z.drop lo).take n).getD i 0 = z.getD (lo + i) 0 := by
  rw [List.getD_eq_getElem?_getD, List.getD_eq_getElem?_getD, List.getElem?_take, if_pos h, List.getElem?_drop]

/-- The clone's shape. -/
theorem own_shape {w : World} {B len : Nat} {v : Value} {xs : List Value} (h : w.ownsRow B 3 1 v len xs) (hl : 0 < len) : ∃ g cap, v = .slice (some ⟨g, 0, none⟩) len cap ∧ B ≤ g ∧ g < w.heap.size ∧ len ≤ cap := by
  rcases h.2 with ⟨_, hh⟩ | ⟨g, cap, cur, hv, hb, hg, hn, _⟩
  · omega
  · exact ⟨g, cap, hv, hb, (Array.getElem?_eq_some_iff.1 hg).1, hn⟩

theorem may_pos {c : Parts} {x y : Int} (h : c.may x y = true) : 1 ≤ x ∧ 1 ≤ y := by
  unfold Parts.may at h
  simp only [Bool.and_eq_true, decide_eq_true_eq] at h
  exact ⟨h.1.1.1.1, h.1.1.1.2⟩

theorem rnd_step (c : Parts) (r : List Int) (p j im : Nat) (K e1 e0 : Int) (him : im = p + 2 * j) (hK : (c.m : Int) + 1 + K = im) (h1 : (c.rnd r p j).getD (im + 1) 0 = e1) (h0 : (c.rnd r p j).getD (im - 1) 0 = e0) :
    c.rnd r p (j + 1) = (c.rnd r p j).set im (c.snk (lesser (e1 - 1) e0) (lesser (e1 - 1) e0 - K)) := by
  rw [Parts.rnd, ← him]
  congr 1
  unfold Parts.val
  rw [h1, h0]
  congr 1
  omega

theorem may_cond (z0 z1 : List Int) (aLo bLo n m : Nat) (ha : aLo + n ≤ z0.length) (hb : bLo + m ≤ z1.length) (X Y : Int) (h1 : 1 ≤ X) (h2 : X ≤ n) (h3 : 1 ≤ Y) (h4 : Y ≤ m) :
    (partsOf z0 z1 aLo bLo n m).may X Y = (z0.getD (aLo + (X.toNat - 1)) 0 == z1.getD (bLo + (Y.toNat - 1)) 0) := by
  rw [may_eq (by rw [partsOf_n ha]; omega) (by rw [partsOf_m hb]; omega)]
  show (((z0.drop aLo).take n).getD (X - 1).toNat 0 == ((z1.drop bLo).take m).getD (Y - 1).toNat 0) = _
  rw [drop_take_getD _ _ _ _ (by omega), drop_take_getD _ _ _ _ (by omega), show (X - 1).toNat = X.toNat - 1 by omega, show (Y - 1).toNat = Y.toNat - 1 by omega]

set_option maxHeartbeats 1600000 in
set_option maxRecDepth 100000 in
theorem model (a0 a1 : Option Addr) (len0 cap0 len1 cap1 : Nat) (z0 z1 : List Int) (w : World) (aLo bLo n m d L : Nat) (R : List Int) (ar : Option Addr) (capr : Nat)
    (v0 : View .i64 w a0 len0 z0) (v1 : View .i64 w a1 len1 z1) (hS : Setup len0 len1 aLo bLo n m d L R) (hl0 : len0 ≤ 300) (hl1 : len1 ≤ 300) (vr : View .i64 w ar L R) (har : ar ≠ none) :
    Calls Yba.prog 8 #[.slice a0 len0 cap0, .slice a1 len1 cap1, .int .i64 aLo, .int .i64 bLo, .int .i64 n, .int .i64 m, .int .i64 d, .slice ar L capr] w
      fun e w' => ∃ g' cap', e = .returned (.slice (some ⟨g', 0, none⟩) L cap') ∧ w.heap.size ≤ g' ∧ Below w.heap.size w w' ∧ w'.ownsRow w.heap.size 3 1 (.slice (some ⟨g', 0, none⟩) L cap') L (((partsOf z0 z1 aLo bLo n m).fin d R).map (Value.int .i64)) := by
  obtain ⟨sA, sB, sD, sL, sR⟩ := hS
  have hbd := lowD_bd (n := n) (m := m) (d := d) (by omega) (by omega) (by omega)
  have HC : Hid ((partsOf z0 z1 aLo bLo n m).n = n ∧ (partsOf z0 z1 aLo bLo n m).m = m) := ⟨partsOf_n (by rw [v0.size]; exact sA), partsOf_m (by rw [v1.size]; exact sB)⟩
  have HL : Hid (L = n + m + 3) := sL
  have HR : Hid (Bd (-1) 999 R) := sR.wide (Int.le_refl _) (by omega)
  have hL1 : L ≤ 603 := by omega
  have hL2 : 3 ≤ L := by omega
  clear sL sR
  generalize hlo : lowD n m d = lo at *
  generalize hhi : highD n m d = hi at *
  have HLH : Hid (lowD n m d = lo ∧ highD n m d = hi) := ⟨hlo, hhi⟩
  clear hlo hhi
  go_enter Yba.func8, Yba.ntmps8
  go_wp2_with fail
  refine (clone_any ar L capr R w vr (by omega) (fun h => absurd h har)).mono ?_
  rintro e w1 ⟨vx, rfl, hown, _, hb1⟩
  obtain ⟨g, cap, hvx, hg1, hg2, hcap⟩ := own_shape hown (by omega)
  rw [hvx] at hown
  rw [hvx]
  have hW0 : Rw w1 w1 w.heap.size g L cap R := ⟨hown, grownBy_refl _ _⟩
  have u0 := v0.below hb1
  have u1 := v1.below hb1
  have ga : ∀ x, a0 = some x → 0 < len0 → x.block ≠ g := fun x hx hl => by
    obtain ⟨b, off, e, hlt, _⟩ := v0.cells hl
    rw [e] at hx; cases hx
    show b ≠ g
    omega
  have gb : ∀ x, a1 = some x → 0 < len1 → x.block ≠ g := fun x hx hl => by
    obtain ⟨b, off, e, hlt, _⟩ := v1.cells hl
    rw [e] at hx; cases hx
    show b ≠ g
    omega
  have HB1 : Hid (Below w.heap.size w w1) := hb1
  have Hg : Hid (w.heap.size ≤ g) := hg1
  clear hvx hown hb1 v0 v1 vr hg1 hg2
  go_upto_if 38 with fail
  go_cut [20] (fun s20 wx => s20 = .int .i64 (if (n : Int) - m - d < -m then -(m : Int) else n - m - d) ∧ wx = w1)
  case first =>
    as_aux_lemma =>
      by_cases e1 : (n : Int) - m - d < -m
      · go_wp2_with fail
        go_meet
        case rel => rw [if_pos e1]; exact ⟨rfl, rfl⟩
      · go_wp2_with fail
        go_meet
        case rel => rw [if_neg (by omega)]; exact ⟨rfl, rfl⟩
  case rest =>
    obtain ⟨rfl, hwc⟩ := hcut
    rw [hwc]
    clear hwc wc
    have hl0 : (n : Int) - m - d ≤ (if (n : Int) - m - d < -m then -(m : Int) else n - m - d) ∧ (if (n : Int) - m - d < -m then -(m : Int) else n - m - d) ≤ n := by split <;> omega
    have HLo : Hid (lo = (if (n : Int) - m - d < -m then -(m : Int) else n - m - d) + ((if (n : Int) - m - d < -m then -(m : Int) else n - m - d) - (n - m) + d) % 2) := by show _ = _; rw [← HLH.out.1]; rfl
    generalize (if (n : Int) - m - d < -m then -(m : Int) else n - m - d) = l0 at *
    go_upto_if 47 with fail
    go_cut [20] (fun s20 wx => s20 = .int .i64 lo ∧ wx = w1)
    case first =>
      as_aux_lemma =>
        by_cases e1 : (l0 - ((n : Int) - m) + d) % 2 = 0
        · have b1 : ((l0 - ((n : Int) - m) + d) % 2 != 0) = false := by rw [bne_eq_false_iff_eq]; exact e1
          have HE : Hid (lo = l0) := by show _ = _; have := HLo.out; omega
          clear e1
          go_wp2_with fail
          go_meet
          case rel => rw [HE.out]; exact ⟨rfl, rfl⟩
        · have b1 : ((l0 - ((n : Int) - m) + d) % 2 != 0) = true := by rw [bne_iff_ne]; exact e1
          have HE : Hid (lo = l0 + 1) := by show _ = _; have := HLo.out; omega
          clear e1
          go_wp2_with fail
          go_meet
          case rel => rw [HE.out]; exact ⟨rfl, rfl⟩
    case rest =>
      obtain ⟨rfl, hwc⟩ := hcut
      rw [hwc]
      clear hwc wc HLo hl0
      clear l0
      go_upto_if 55 with fail
      go_cut [21] (fun s21 wx => s21 = .int .i64 hi ∧ wx = w1)
      case first =>
        as_aux_lemma =>
          by_cases e1 : (n : Int) < n - m + d
          · have HE : Hid (hi = n) := by show _ = _; rw [← HLH.out.2]; unfold highD; rw [if_pos e1]
            go_wp2_with fail
            go_meet
            case rel => rw [HE.out]; exact ⟨rfl, rfl⟩
          · have HE : Hid (hi = n - m + d) := by show _ = _; rw [← HLH.out.2]; unfold highD; rw [if_neg e1]
            go_wp2_with fail
            go_meet
            case rel => rw [HE.out]; exact ⟨rfl, rfl⟩
      case rest =>
        obtain ⟨rfl, hwc⟩ := hcut
        rw [hwc]
        clear hwc wc
        go_upto_region 11 with fail
        go_cut [67] (fun s67 wx => s67 = .bool (decide (lo = n - m - d ∨ lo = -(m : Int))) ∧ wx = w1)
        case first =>
          as_aux_lemma =>
            by_cases e1 : lo = n - m - d
            · have b1 : (lo == (n : Int) - m - d) = true := by simpa using e1
              have HD : Hid (decide (lo = n - m - d ∨ lo = -(m : Int)) = true) := by show _ = _; simp [e1]
              clear e1
              go_wp2_with fail
              go_meet
              case rel => rw [HD.out]; exact ⟨rfl, rfl⟩
            · have b1 : (lo == (n : Int) - m - d) = false := by simpa using e1
              by_cases e2 : lo = -(m : Int)
              · have b2 : (lo == -(m : Int)) = true := by simpa using e2
                have HD : Hid (decide (lo = n - m - d ∨ lo = -(m : Int)) = true) := by show _ = _; simp [e2]
                clear e1 e2
                go_wp2_with fail
                go_meet
                case rel => rw [HD.out]; exact ⟨rfl, rfl⟩
              · have b2 : (lo == -(m : Int)) = false := by simpa using e2
                have HD : Hid (decide (lo = n - m - d ∨ lo = -(m : Int)) = false) := by show _ = _; simp [e1, e2]
                clear e1 e2
                go_wp2_with fail
                go_meet
                case rel => rw [HD.out]; exact ⟨rfl, rfl⟩
        case rest =>
          obtain ⟨rfl, hwc⟩ := hcut
          rw [hwc]
          clear hwc wc
          go_upto_if 67 with fail
          go_cut [] (fun wx => Rw w1 wx w.heap.size g L cap (sent1 n m d R))
          case first =>
            as_aux_lemma =>
              by_cases e1 : lo = n - m - d ∨ lo = -(m : Int)
              · have HS : Hid (sent1 n m d R = R.set ((m : Int) + lo).toNat (n + 1)) := by show _ = _; unfold sent1; rw [HLH.out.1, if_pos e1]
                have hdc : decide (lo = n - m - d ∨ lo = -(m : Int)) = true := by simpa using e1
                obtain ⟨k, hk⟩ : ∃ k : Nat, (m : Int) + 1 + lo - 1 = k := ⟨((m : Int) + lo).toNat, by omega⟩
                have i2 : (k : Int) < (L : Int) := by have := HL.out; omega
                have k1 := hW0.cell k (by omega)
                have f1 := hW0.frozen k
                have hW := hW0.set k (n + 1)
                have HK : Hid (k = ((m : Int) + lo).toNat) := by show _ = _; omega
                rw [hdc]
                clear e1 hdc
                go_wp2_with fail
                go_meet
                case rel => rw [HS.out, ← HK.out]; exact hW
              · have HS : Hid (sent1 n m d R = R) := by show _ = _; unfold sent1; rw [HLH.out.1, if_neg e1]
                have hdc : decide (lo = n - m - d ∨ lo = -(m : Int)) = false := by simpa using e1
                rw [hdc]
                clear e1 hdc
                go_wp2_with fail
                go_meet
                case rel => rw [HS.out]; exact hW0
          case rest =>
            have hW1 := hcut
            clear hcut hW0
            obtain ⟨w2, hw2⟩ : ∃ w2, w2 = wc := ⟨_, rfl⟩
            rw [← hw2] at hW1
            rw [← hw2]
            clear hw2 wc
            go_upto_region 13 with fail
            go_cut [85] (fun s85 wx => s85 = .bool (decide (hi = n - m + d ∨ hi = (n : Int))) ∧ wx = w2)
            case first =>
              as_aux_lemma =>
                by_cases e1 : hi = n - m + d
                · have b1 : (hi == (n : Int) - m + d) = true := by simpa using e1
                  have HD : Hid (decide (hi = n - m + d ∨ hi = (n : Int)) = true) := by show _ = _; simp [e1]
                  clear e1
                  go_wp2_with fail
                  go_meet
                  case rel => rw [HD.out]; exact ⟨rfl, rfl⟩
                · have b1 : (hi == (n : Int) - m + d) = false := by simpa using e1
                  by_cases e2 : hi = (n : Int)
                  · have b2 : (hi == (n : Int)) = true := by simpa using e2
                    have HD : Hid (decide (hi = n - m + d ∨ hi = (n : Int)) = true) := by show _ = _; simp [e2]
                    clear e1 e2
                    go_wp2_with fail
                    go_meet
                    case rel => rw [HD.out]; exact ⟨rfl, rfl⟩
                  · have b2 : (hi == (n : Int)) = false := by simpa using e2
                    have HD : Hid (decide (hi = n - m + d ∨ hi = (n : Int)) = false) := by show _ = _; simp [e1, e2]
                    clear e1 e2
                    go_wp2_with fail
                    go_meet
                    case rel => rw [HD.out]; exact ⟨rfl, rfl⟩
            case rest =>
              obtain ⟨rfl, hwc⟩ := hcut
              rw [hwc]
              clear hwc wc
              go_upto_if 85 with fail
              go_cut [] (fun wx => Rw w1 wx w.heap.size g L cap (sent2 n m d R))
              case first =>
                as_aux_lemma =>
                  by_cases e1 : hi = n - m + d ∨ hi = (n : Int)
                  · have HS : Hid (sent2 n m d R = (sent1 n m d R).set ((m : Int) + hi + 2).toNat (n + 1)) := by show _ = _; unfold sent2; rw [HLH.out.2, if_pos e1]
                    have hdc : decide (hi = n - m + d ∨ hi = (n : Int)) = true := by simpa using e1
                    obtain ⟨k, hk⟩ : ∃ k : Nat, (m : Int) + 1 + hi + 1 = k := ⟨((m : Int) + hi + 2).toNat, by omega⟩
                    have i2 : (k : Int) < (L : Int) := by have := HL.out; omega
                    have k1 := hW1.cell k (by omega)
                    have f1 := hW1.frozen k
                    have hW := hW1.set k (n + 1)
                    have HK : Hid (k = ((m : Int) + hi + 2).toNat) := by show _ = _; omega
                    rw [hdc]
                    clear e1 hdc
                    go_wp2_with fail
                    go_meet
                    case rel => rw [HS.out, ← HK.out]; exact hW
                  · have HS : Hid (sent2 n m d R = sent1 n m d R) := by show _ = _; unfold sent2; rw [HLH.out.2, if_neg e1]
                    have hdc : decide (hi = n - m + d ∨ hi = (n : Int)) = false := by simpa using e1
                    rw [hdc]
                    clear e1 hdc
                    go_wp2_with fail
                    go_meet
                    case rel => rw [HS.out]; exact hW1
              case rest =>
                have hW2 := hcut
                clear hcut hW1
                obtain ⟨w3, hw3⟩ : ∃ w3, w3 = wc := ⟨_, rfl⟩
                rw [← hw3] at hW2
                rw [← hw3]
                clear hw3 wc w2
                obtain ⟨p, hp⟩ : ∃ k : Nat, (m : Int) + 1 + lo = k := ⟨((m : Int) + 1 + lo).toNat, by omega⟩
                have HP : Hid ((m : Int) + 1 + lo = p) := hp
                have hb2 : Bd (-1) 1000 (sent2 n m d R) := sent2_bd (Bd.wide HR.out (Int.le_refl _) (by omega)) (by omega) (by omega)
                have HB2 : Hid _ := hb2
                clear hp hb2
                generalize hc : partsOf z0 z1 aLo bLo n m = c at *
                have HCE : Hid (partsOf z0 z1 aLo bLo n m = c) := hc
                clear hc
                go_wp2_with fail
                go_loopg [22] (hi + 3 - lo).toNat (fun gh s22 wr => ∃ (j : Nat) (K : Int), s22 = .int .i64 K ∧ (hi + 3 - K).toNat ≤ gh ∧ lo ≤ K ∧ K ≤ hi + 2 ∧ Hid (K = lo + 2 * j) ∧ Rw w1 wr w.heap.size g L cap (c.rnd (sent2 n m d R) p j))
                case atStart => exact ⟨0, lo, rfl, Nat.le_refl _, Int.le_refl _, by omega, show _ = _ by omega, hW2⟩
                case round =>
                  obtain ⟨j, K, rfl, hg, hK1, hK2, HK, hW⟩ := hrel
                  by_cases hlt : K ≤ hi
                  · obtain ⟨im, him⟩ : ∃ k : Nat, (m : Int) + 1 + K = k := ⟨((m : Int) + 1 + K).toNat, by omega⟩
                    have hbd2 := c.rnd_bd (sent2 n m d R) p HB2.out (by omega) j
                    have q1 := hW.cell (im + 1) (by have := HL.out; omega)
                    have q0 := hW.cell (im - 1) (by have := HL.out; omega)
                    have qm := hW.cell im (by have := HL.out; omega)
                    have qf := hW.frozen im
                    have bd1 := hbd2 (im + 1)
                    have bd0 := hbd2 (im - 1)
                    generalize he1 : (c.rnd (sent2 n m d R) p j).getD (im + 1) 0 = e1 at q1 bd1
                    generalize he0 : (c.rnd (sent2 n m d R) p j).getD (im - 1) 0 = e0 at q0 bd0
                    have HI : Hid (im = p + 2 * j) := by show _ = _; have := HP.out; have := HK.out; omega
                    have HST : Hid _ := rnd_step c (sent2 n m d R) p j im K e1 e0 HI.out (by rw [HC.out.2]; exact him) he1 he0
                    have jb : (j : Int) ≤ 400 := by have := HK.out; omega
                    have z1' : (1 : Int) ≤ (im : Int) := by omega
                    have z2' : (im : Int) + 1 < (L : Int) := by have := HL.out; omega
                    have bx := lesser_bd (a := e1 - 1) (b := e0) (lo := -1000) (hi := 1000) (by omega) (by omega) (by omega)
                    clear he1 he0 hbd2
                    go_upto_if 116 with fail
                    go_cut [23] (fun s23 wx => s23 = .int .i64 (lesser (e1 - 1) e0) ∧ wx = wr)
                    case first =>
                      as_aux_lemma =>
                        by_cases e : e0 < e1 - 1
                        · have HE : Hid (lesser (e1 - 1) e0 = e0) := by show _ = _; unfold lesser; rw [if_pos e]
                          go_wp2_with fail
                          go_meet
                          case rel => rw [HE.out]; exact ⟨rfl, rfl⟩
                        · have HE : Hid (lesser (e1 - 1) e0 = e1 - 1) := by show _ = _; unfold lesser; rw [if_neg e]
                          go_wp2_with fail
                          go_meet
                          case rel => rw [HE.out]; exact ⟨rfl, rfl⟩
                    case rest =>
                      obtain ⟨rfl, hwc⟩ := hcut
                      rw [hwc]
                      clear hwc wc q1 q0
                      generalize lesser (e1 - 1) e0 = x at *
                      have y0 : -2000 ≤ x - K ∧ x - K ≤ 2000 := by omega
                      have HA : Hid (lo ≤ K ∧ K ≤ hi ∧ (1 : Int) ≤ (im : Int) ∧ (im : Int) + 1 < (L : Int) ∧ (im : Int) < 700 ∧ (hi + 3 - K).toNat ≤ gk ∧ (m : Int) + 1 + K = im ∧ im < L) := ⟨hK1, hlt, z1', z2', by omega, hg, him, by omega⟩
                      have hbx1 := bx.1
                      have hbx2 := bx.2
                      have hKb : -1000 ≤ K ∧ K ≤ 1000 := by omega
                      clear bd1 bd0 bx hK1 hK2 hlt z1' z2' jb hg him
                      clear e1 e0
                      obtain ⟨wo, hwo⟩ : ∃ wo, wo = wr := ⟨_, rfl⟩
                      rw [← hwo] at hW qm qf
                      rw [← hwo]
                      clear hwo wr
                      go_wp2_with fail
                      go_loopg [23, 24] x.toNat (fun gh s3 s4 wr => ∃ (X Y : Int) (q : Nat), X.toNat ≤ gh ∧ s3 = .int .i64 X ∧ s4 = .int .i64 Y ∧ -1000 ≤ X ∧ X ≤ 1000 ∧ wr = wo.drewN q ∧ -3000 ≤ Y ∧ Y ≤ 3000 ∧ Hid (c.snk X Y = c.snk x (x - K)))
                      case atStart => exact ⟨x, x - K, 0, Nat.le_refl _, rfl, rfl, hbx1, hbx2, rfl, by omega, by omega, rfl⟩
                      case round =>
                        obtain ⟨X, Y, q, hg, rfl, rfl, hX1, hX2, rfl, hY1, hY2, HE⟩ := hrel
                        go_upto_region 22 with fail
                        go_cut [159] (fun s159 wx => s159 = .bool (c.may X Y) ∧ ∃ q, wx = wo.drewN q)
                        case first =>
                          as_aux_lemma =>
                            by_cases t1 : 1 ≤ X
                            · by_cases t2 : 1 ≤ Y
                              · by_cases t3 : X ≤ n
                                · by_cases t4 : Y ≤ m
                                  · have HM : Hid (c.may X Y = (z0.getD (aLo + (X.toNat - 1)) 0 == z1.getD (bLo + (Y.toNat - 1)) 0)) := by
                                      show _ = _
                                      rw [← HCE.out]
                                      exact may_cond z0 z1 aLo bLo n m (by rw [u0.size]; exact sA) (by rw [u1.size]; exact sB) X Y t1 t3 t2 t4
                                    obtain ⟨b0, o0, rfl, _, hc0⟩ := u0.cells (by omega)
                                    obtain ⟨b1, o1, rfl, _, hc1⟩ := u1.cells (by omega)
                                    have na : b0 ≠ g := ga ⟨b0, o0, none⟩ rfl (by omega)
                                    have nb : b1 ≠ g := gb ⟨b1, o1, none⟩ rfl (by omega)
                                    have g0 : wo.cell? ⟨b0, o0 + (aLo + (X.toNat - 1)), none⟩ = _ := hW.gr.cell (hc0 (aLo + (X.toNat - 1)) (by omega)) (by simpa using na)
                                    have g1 : wo.cell? ⟨b1, o1 + (bLo + (Y.toNat - 1)), none⟩ = _ := hW.gr.cell (hc1 (bLo + (Y.toNat - 1)) (by omega)) (by simpa using nb)
                                    generalize z0.getD (aLo + (X.toNat - 1)) 0 = e2 at g0 HM
                                    generalize z1.getD (bLo + (Y.toNat - 1)) 0 = e3 at g1 HM
                                    obtain ⟨i0, hi0⟩ : ∃ k : Nat, (aLo : Int) + X - 1 = k := ⟨aLo + (X.toNat - 1), by omega⟩
                                    obtain ⟨i1, hi1⟩ : ∃ k : Nat, (bLo : Int) + Y - 1 = k := ⟨bLo + (Y.toNat - 1), by omega⟩
                                    rw [show aLo + (X.toNat - 1) = i0 by omega] at g0
                                    rw [show bLo + (Y.toNat - 1) = i1 by omega] at g1
                                    have x1 : IntKind.i64.wrap ((aLo : Int) + X) = aLo + X := by rw [IntKind.wrap_i64]; omega
                                    have x2 : IntKind.i64.wrap ((bLo : Int) + Y) = bLo + Y := by rw [IntKind.wrap_i64]; omega
                                    have x3 : IntKind.i64.wrap (i0 : Int) = i0 := by rw [IntKind.wrap_i64]; omega
                                    have x4 : IntKind.i64.wrap (i1 : Int) = i1 := by rw [IntKind.wrap_i64]; omega
                                    have y1 : (i0 : Int) < (len0 : Int) := by omega
                                    have y2 : (i1 : Int) < (len1 : Int) := by omega
                                    clear hc0 hc1 u0 u1 ga gb
                                    go_quiet (fail)
                                    go_wp2_with fail
                                    go_meet
                                    case rel => go_light; rw [HM.out]; first | exact ⟨rfl, _, rfl⟩ | exact ⟨rfl, q + nq, by simp⟩
                                  · have d4 : decide (Y ≤ (m : Int)) = false := decide_eq_false t4
                                    have HM : Hid (c.may X Y = false) := may_false' (by rw [HC.out.2]; omega)
                                    go_quiet (fail)
                                    go_wp2_with fail
                                    go_meet
                                    case rel => go_light; rw [HM.out]; first | exact ⟨rfl, _, rfl⟩ | exact ⟨rfl, q + nq, by simp⟩
                                · have d3 : decide (X ≤ (n : Int)) = false := decide_eq_false t3
                                  have HM : Hid (c.may X Y = false) := may_false (by rw [HC.out.1]; omega)
                                  go_quiet (fail)
                                  go_wp2_with fail
                                  go_meet
                                  case rel => go_light; rw [HM.out]; first | exact ⟨rfl, _, rfl⟩ | exact ⟨rfl, q + nq, by simp⟩
                              · have d2 : decide (1 ≤ Y) = false := decide_eq_false t2
                                have HM : Hid (c.may X Y = false) := may_false' (by rw [HC.out.2]; omega)
                                go_quiet (fail)
                                go_wp2_with fail
                                go_meet
                                case rel => go_light; rw [HM.out]; first | exact ⟨rfl, _, rfl⟩ | exact ⟨rfl, q + nq, by simp⟩
                            · have d1 : decide (1 ≤ X) = false := decide_eq_false t1
                              have HM : Hid (c.may X Y = false) := may_false (by rw [HC.out.1]; omega)
                              go_quiet (fail)
                              go_wp2_with fail
                              go_meet
                              case rel => go_light; rw [HM.out]; first | exact ⟨rfl, _, rfl⟩ | exact ⟨rfl, q + nq, by simp⟩
                        case rest =>
                          obtain ⟨rfl, q', hwc⟩ := hcut
                          have hW' := hW.drew q'
                          rw [← hwc] at hW'
                          cases hm : c.may X Y with
                          | true =>
                            have HM : Hid _ := hm
                            clear hm
                            go_wp2_with fail
                            go_roundg (X - 1).toNat
                            case measure => go_light; have := may_pos HM.out; omega
                            case rel =>
                              go_light
                              have := may_pos HM.out
                              refine ⟨X - 1, Y - 1, q', Nat.le_refl _, rfl, rfl, by omega, by omega, by first | rfl | exact hwc, by omega, by omega, ?_⟩
                              show c.snk (X - 1) (Y - 1) = c.snk x (x - K)
                              rw [← HE.out, c.snk_step X Y HM.out]
                          | false =>
                            have HX : Hid (X = c.snk x (x - K)) := by show _ = _; rw [← HE.out]; exact (c.snk_stop _ _ hm).symm
                            clear hm
                            obtain ⟨hK1, hlt, z1', z2', z3', hg', him, hiL⟩ := HA.out
                            have km := hW'.cell im hiL
                            have kf := hW'.frozen im
                            have hWn := hW'.set im X
                            have hst : c.rnd (sent2 n m d R) p (j + 1) = (c.rnd (sent2 n m d R) p j).set im X := by rw [HX.out]; exact HST.out
                            rw [← hst] at hWn
                            clear hst hwc qm qf
                            go_wp2_with fail
                            go_roundg (hi + 3 - (K + 2)).toNat
                            case measure => go_light; omega
                            case rel => go_light; exact ⟨j + 1, K + 2, rfl, Nat.le_refl _, by omega, by omega, show _ = _ by have := HK.out; omega, hWn⟩
                  · go_wp2_with fail
                    go_ret
                    have hJ : j = count n m d := by
                      unfold count ixHigh ixLow
                      rw [HLH.out.1, HLH.out.2]
                      have := HP.out
                      have := HK.out
                      omega
                    have hfin : c.fin d R = c.rnd (sent2 n m d R) p j := by
                      unfold Parts.fin
                      rw [HC.out.1, HC.out.2, ← hJ]
                      congr 1
                      unfold ixLow
                      rw [HLH.out.1]
                      have := HP.out
                      omega
                    rw [HCE.out, hfin]
                    exact ⟨g, cap, rfl, Hg.out, (HB1.out).trans ⟨hW.gr.os, hW.gr.tape, hW.gr.output, hW.gr.size, fun i hi' => hW.gr.block i (by have := (HB1.out).size; omega) (by have := Hg.out; simp; omega)⟩, hW.own⟩
end Go.Proofs.Ybulkdew
