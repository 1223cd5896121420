import Derived.Test.YbulkdewDiag
import Derived.Test.YbulkdewFunc
namespace Go.Proofs.Ybulkdew
open Go.RowKit
set_option linter.unusedVariables false

theorem rnd_stepF (c : Parts) (r : List Int) (p j im : Nat) (K e1 e0 : Int) (him : im = p + 2 * j) (hK : (c.m : Int) + 1 + K = im) (h1 : (c.rnd r p j).getD (im + 1) 0 = e1) (h0 : (c.rnd r p j).getD (im - 1) 0 = e0) :
    c.rnd r p (j + 1) = (c.rnd r p j).set im (c.snk (lesser (e1 - 1) e0) (lesser (e1 - 1) e0 - K)) := by
  rw [Parts.rnd, ← him]
  congr 1
  unfold Parts.val
  rw [h1, h0]
  congr 1
  omega

theorem eq_func_nil (w : World) (fn : Fn) (x y : Array Value) : (binOp .eql 30 (.func fn x y) .nilFunc).run Yba.prog w = .ok (.bool false) w := by kernel_rfl

set_option maxHeartbeats 4000000 in
set_option maxRecDepth 100000 in
theorem round_func (sp : Nat) (c : Parts) (q1 q2 q3 q4 q5 q6 : Nat) (w : World) (B g L cap : Nat) (R : List Int) (aLo bLo n m d : Int)
    (c2 : w.cell? ⟨sp, 2, none⟩ = some (clo q1 q2 q3 q4 q5 q6)) (c6 : w.cell? ⟨sp, 6, none⟩ = some (.slice (some ⟨g, 0, none⟩) L cap)) (hsp : sp ≠ g)
    (hE : EqFn c q1 q2 q3 q4 q5 q6 g w aLo bLo) (hn : c.n = n) (hm : c.m = m) (hn3 : n ≤ 300) (hm3 : m ≤ 300)
    (hd : 0 ≤ d ∧ d ≤ n + m + 1) (ha : 0 ≤ aLo ∧ aLo ≤ 300) (hb' : 0 ≤ bLo ∧ bLo ≤ 300)
    (hR : Rw w w B g L cap R) (hb : Bd (-1) 999 R) (hL : (L : Int) = n + m + 3) :
    Calls Yba.prog 10 #[.pointer (some ⟨sp, 0, none⟩), .int .i64 aLo, .int .i64 bLo, .int .i64 n, .int .i64 m, .int .i64 d] w
      fun e w' => e = .returned (.tuple #[]) ∧ Rw w w' B g L cap (c.fin d R) := by
  have hnn : 0 ≤ n ∧ n ≤ 300 := ⟨by rw [← hn]; exact Int.natCast_nonneg _, hn3⟩
  have hmm : 0 ≤ m ∧ m ≤ 300 := ⟨by rw [← hm]; exact Int.natCast_nonneg _, hm3⟩
  have hbd := lowD_bd (n := n) (m := m) (d := d) (by omega) (by omega) (by omega)
  have Hn : Hid (c.n = n ∧ c.m = m) := ⟨hn, hm⟩
  have HL : Hid ((L : Int) = n + m + 3) := hL
  have hL1 : (L : Int) ≤ 603 := by omega
  have hs := eq_func_nil
  have HC2 : Hid _ := c2
  have HC6 : Hid _ := c6
  clear hn hm hL
  go_enter Yba.func10, Yba.ntmps10
  go_wp2_with fail
  refine (diag n m d _ (by omega) (by omega) (by omega)).mono ?_
  rintro e w1 ⟨rfl, hw⟩
  rw [hw]
  clear hw w1
  generalize hlo : lowD n m d = lo at *
  generalize hhi : highD n m d = hi at *
  have HLH : Hid (lowD n m d = lo ∧ highD n m d = hi) := ⟨hlo, hhi⟩
  clear hlo hhi
  go_upto_region 2 with fail
  go_cut [41] (fun s41 wx => s41 = .bool (decide (lo = n - m - d ∨ lo = -m)) ∧ wx = w)
  case first =>
    as_aux_lemma =>
      by_cases e1 : lo = n - m - d
      · have b1 : (lo == n - m - d) = true := by simpa using e1
        have HD : Hid (decide (lo = n - m - d ∨ lo = -m) = true) := by show _ = _; simp [e1]
        clear e1
        go_wp2_with fail
        go_meet
        case rel => rw [HD.out]; exact ⟨rfl, rfl⟩
      · have b1 : (lo == n - m - d) = false := by simpa using e1
        by_cases e2 : lo = -m
        · have b2 : (lo == -m) = true := by simpa using e2
          have HD : Hid (decide (lo = n - m - d ∨ lo = -m) = true) := by show _ = _; simp [e2]
          clear e1 e2
          go_wp2_with fail
          go_meet
          case rel => rw [HD.out]; exact ⟨rfl, rfl⟩
        · have b2 : (lo == -m) = false := by simpa using e2
          have HD : Hid (decide (lo = n - m - d ∨ lo = -m) = false) := by show _ = _; simp [e1, e2]
          clear e1 e2
          go_wp2_with fail
          go_meet
          case rel => rw [HD.out]; exact ⟨rfl, rfl⟩
  case rest =>
    obtain ⟨rfl, hwc⟩ := hcut
    rw [hwc]
    clear hwc wc
    go_upto_if 41 with fail
    go_cut [] (fun wx => Rw w wx B g L cap (sent1 n m d R))
    case first =>
      as_aux_lemma =>
        by_cases e1 : lo = n - m - d ∨ lo = -m
        · have HS : Hid (sent1 n m d R = R.set (m + lo).toNat (n + 1)) := by show _ = _; unfold sent1; rw [HLH.out.1, if_pos e1]
          have hdc : decide (lo = n - m - d ∨ lo = -m) = true := by simpa using e1
          obtain ⟨k, hk⟩ : ∃ k : Nat, m + 1 + lo - 1 = k := ⟨(m + lo).toNat, by omega⟩
          have i2 : (k : Int) < (L : Int) := by have := HL.out; omega
          have k1 := hR.cell k (by omega)
          have f1 := hR.frozen k
          have hW := hR.set k (n + 1)
          have HK : Hid (k = (m + lo).toNat) := by show _ = _; omega
          rw [hdc]
          clear e1 hdc
          go_wp2_with fail
          go_meet
          case rel => rw [HS.out, ← HK.out]; exact hW
        · have HS : Hid (sent1 n m d R = R) := by show _ = _; unfold sent1; rw [HLH.out.1, if_neg e1]
          have hdc : decide (lo = n - m - d ∨ lo = -m) = false := by simpa using e1
          rw [hdc]
          clear e1 hdc
          go_wp2_with fail
          go_meet
          case rel => rw [HS.out]; exact hR
    case rest =>
      have hW1 := hcut
      clear hcut
      have c2' := hW1.gr.cell c2 (by simpa using hsp)
      have c6' := hW1.gr.cell c6 (by simpa using hsp)
      clear c2 c6
      obtain ⟨w1, hw1⟩ : ∃ w1, w1 = wc := ⟨_, rfl⟩
      rw [← hw1] at c2' c6' hW1
      rw [← hw1]
      clear hw1 wc
      go_upto_region 4 with fail
      go_cut [62] (fun s62 wx => s62 = .bool (decide (hi = n - m + d ∨ hi = n)) ∧ wx = w1)
      case first =>
        as_aux_lemma =>
          by_cases e1 : hi = n - m + d
          · have b1 : (hi == n - m + d) = true := by simpa using e1
            have HD : Hid (decide (hi = n - m + d ∨ hi = n) = true) := by show _ = _; simp [e1]
            clear e1
            go_wp2_with fail
            go_meet
            case rel => rw [HD.out]; exact ⟨rfl, rfl⟩
          · have b1 : (hi == n - m + d) = false := by simpa using e1
            by_cases e2 : hi = n
            · have b2 : (hi == n) = true := by simpa using e2
              have HD : Hid (decide (hi = n - m + d ∨ hi = n) = true) := by show _ = _; simp [e2]
              clear e1 e2
              go_wp2_with fail
              go_meet
              case rel => rw [HD.out]; exact ⟨rfl, rfl⟩
            · have b2 : (hi == n) = false := by simpa using e2
              have HD : Hid (decide (hi = n - m + d ∨ hi = n) = false) := by show _ = _; simp [e1, e2]
              clear e1 e2
              go_wp2_with fail
              go_meet
              case rel => rw [HD.out]; exact ⟨rfl, rfl⟩
      case rest =>
        obtain ⟨rfl, hwc⟩ := hcut
        rw [hwc]
        clear hwc wc
        go_upto_if 62 with fail
        go_cut [] (fun wx => Rw w wx B g L cap (sent2 n m d R))
        case first =>
          as_aux_lemma =>
            by_cases e1 : hi = n - m + d ∨ hi = n
            · have HS : Hid (sent2 n m d R = (sent1 n m d R).set (m + hi + 2).toNat (n + 1)) := by show _ = _; unfold sent2; rw [HLH.out.2, if_pos e1]
              have hdc : decide (hi = n - m + d ∨ hi = n) = true := by simpa using e1
              obtain ⟨k, hk⟩ : ∃ k : Nat, m + 1 + hi + 1 = k := ⟨(m + hi + 2).toNat, by omega⟩
              have i2 : (k : Int) < (L : Int) := by have := HL.out; omega
              have k1 := hW1.cell k (by omega)
              have f1 := hW1.frozen k
              have hW := hW1.set k (n + 1)
              have HK : Hid (k = (m + hi + 2).toNat) := by show _ = _; omega
              rw [hdc]
              clear e1 hdc
              go_wp2_with fail
              go_meet
              case rel => rw [HS.out, ← HK.out]; exact hW
            · have HS : Hid (sent2 n m d R = sent1 n m d R) := by show _ = _; unfold sent2; rw [HLH.out.2, if_neg e1]
              have hdc : decide (hi = n - m + d ∨ hi = n) = false := by simpa using e1
              rw [hdc]
              clear e1 hdc
              go_wp2_with fail
              go_meet
              case rel => rw [HS.out]; exact hW1
        case rest =>
          have hW2 := hcut
          clear hcut c2' c6' hW1
          obtain ⟨w2, hw2⟩ : ∃ w2, w2 = wc := ⟨_, rfl⟩
          rw [← hw2] at hW2
          rw [← hw2]
          clear hw2 wc
          have d2 := hW2.gr.cell HC2.out (by simpa using hsp)
          have d6 := hW2.gr.cell HC6.out (by simpa using hsp)
          unfold clo at d2
          have hb2 : Bd (-1) 1000 (sent2 n m d R) := sent2_bd (hb.wide (Int.le_refl _) (by omega)) (by omega) (by omega)
          obtain ⟨p, hp⟩ : ∃ k : Nat, m + 1 + lo = k := ⟨(m + 1 + lo).toNat, by omega⟩
          have HP : Hid (m + 1 + lo = p) := hp
          have hp1 : 1 ≤ p := by omega
          have hpL : (p : Int) ≤ n + m + 2 := by omega
          clear hp
          have HB2 : Hid _ := hb2
          have HE : Hid _ := hE
          clear hb2 hE
          go_wp2_with fail
          go_loopg [16] (hi + 3 - lo).toNat (fun gh s16 wr => ∃ (j : Nat) (K : Int), s16 = .int .i64 K ∧ (hi + 3 - K).toNat ≤ gh ∧ lo ≤ K ∧ K ≤ hi + 2 ∧ Hid (K = lo + 2 * j) ∧ Rw w wr B g L cap (c.rnd (sent2 n m d R) p j))
          case atStart => exact ⟨0, lo, rfl, Nat.le_refl _, Int.le_refl _, by omega, show _ = _ by omega, hW2⟩
          case round =>
            obtain ⟨j, K, rfl, hg, hK1, hK2, HK, hW⟩ := hrel
            by_cases hlt : K ≤ hi
            · obtain ⟨im, him⟩ : ∃ k : Nat, m + 1 + K = k := ⟨(m + 1 + K).toNat, by omega⟩
              have hbd2 := c.rnd_bd (sent2 n m d R) p HB2.out (by omega) j
              have q1' := hW.cell (im + 1) (by have := HL.out; omega)
              have q0' := hW.cell (im - 1) (by have := HL.out; omega)
              have bd1 := hbd2 (im + 1)
              have bd0 := hbd2 (im - 1)
              generalize he1 : (c.rnd (sent2 n m d R) p j).getD (im + 1) 0 = e1 at q1' bd1
              generalize he0 : (c.rnd (sent2 n m d R) p j).getD (im - 1) 0 = e0 at q0' bd0
              have HI : Hid (im = p + 2 * j) := by show _ = _; have := HP.out; have := HK.out; omega
              have HST : Hid _ := rnd_stepF c (sent2 n m d R) p j im K e1 e0 HI.out (by rw [Hn.out.2]; exact him) he1 he0
              have jb : (j : Int) ≤ 400 := by have := HK.out; omega
              have z1' : (1 : Int) ≤ (im : Int) := by omega
              have z2' : (im : Int) + 1 < (L : Int) := by have := HL.out; omega
              have z3' : (im : Int) < (L : Int) := by omega
              have z4' : (im : Int) - 1 < (L : Int) := by omega
              have z5' : (0 : Int) ≤ (im : Int) - 1 := by omega
              have z6' : (0 : Int) ≤ (im : Int) + 1 := by omega
              have bx := lesser_bd (a := e1 - 1) (b := e0) (lo := -1000) (hi := 1000) (by omega) (by omega) (by omega)
              have s6 := hW.gr.cell HC6.out (by simpa using hsp)
              have s2 := hW.gr.cell HC2.out (by simpa using hsp)
              unfold clo at s2
              have y1 : IntKind.i64.wrap (im : Int) = im := by rw [IntKind.wrap_i64]; omega
              have y2 : IntKind.i64.wrap ((im : Int) + 1) = im + 1 := by rw [IntKind.wrap_i64]; omega
              have y3 : IntKind.i64.wrap ((im : Int) - 1) = im - 1 := by rw [IntKind.wrap_i64]; omega
              have y4 : IntKind.i64.wrap (e1 - 1) = e1 - 1 := by rw [IntKind.wrap_i64]; omega
              have HMN : Hid (∀ W, Calls Yba.prog 18 #[.int .i64 (e1 - 1), .int .i64 e0] W fun e w' => e = .returned (.int .i64 (lesser (e1 - 1) e0)) ∧ w' = W) := fun W => minOf_any (e1 - 1) e0 W (by omega) (by omega)
              clear he1 he0 hbd2 d2 d6
              go_wp2_with fail
              go_region_held3 (fun W => W.cell? ⟨sp, 6, none⟩ = some (.slice (some ⟨g, 0, none⟩) L cap) ∧ W.cell? ⟨g, im + 1, none⟩ = some (.int .i64 e1) ∧ W.cell? ⟨g, im - 1, none⟩ = some (.int .i64 e0)) (go_keep) (first | (go_at_call 18; refine Calls.mono (HMN.out _) ?_; rintro e w1 ⟨rfl, rfl⟩))
              generalize lesser (e1 - 1) e0 = x at *
              obtain ⟨w5, hw5⟩ : ∃ w5, w5 = wr.drew := ⟨_, rfl⟩
              have hW5 : Rw w w5 B g L cap (c.rnd (sent2 n m d R) p j) := by rw [hw5]; exact hW.drew 1
              have t6 : w5.cell? ⟨sp, 6, none⟩ = some (.slice (some ⟨g, 0, none⟩) L cap) := by rw [hw5]; exact s6
              have t2 : w5.cell? ⟨sp, 2, none⟩ = some (clo q1 q2 q3 q4 q5 q6) := by rw [hw5]; exact s2
              unfold clo at t2
              rw [← hw5]
              have HSF : Hid (∀ W, w.grownBy W (some g) → Calls Yba.prog 19 #[clo q1 q2 q3 q4 q5 q6, .int .i64 aLo, .int .i64 bLo, .int .i64 x, .int .i64 (x - K)] W fun e w' => e = .returned (.tuple #[.int .i64 (c.snk x (x - K)), .int .i64 (c.snk x (x - K) + (x - K - x))]) ∧ ∃ q, w' = W.drewN q) := fun W hWg => snakeF c q1 q2 q3 q4 q5 q6 g w W aLo bLo x (x - K) HE.out hWg ha hb' (by omega) (by omega)
              generalize c.snk x (x - K) = vv at *
              have hWg5 : w.grownBy w5.drew (some g) := ⟨hW5.gr.os, hW5.gr.tape, hW5.gr.output, hW5.gr.size, hW5.gr.block⟩
              have y5 : IntKind.i64.wrap (x - K) = x - K := by rw [IntKind.wrap_i64]; omega
              have hgs : ¬ g = sp := by omega
              have hiL : im < L := by omega
              unfold clo at HSF
              clear q1' q0' s6 s2 hW hw5 HMN
              go_wp2_with fail
              go_region_held3 (fun W => W.cell? ⟨sp, 6, none⟩ = some (.slice (some ⟨g, 0, none⟩) L cap) ∧ W.cell? ⟨sp, 2, none⟩ = some (.func (Fn.func 12) #[] #[.pointer (some ⟨q1, 0, none⟩), .pointer (some ⟨q2, 0, none⟩), .pointer (some ⟨q3, 0, none⟩), .pointer (some ⟨q4, 0, none⟩), .pointer (some ⟨q5, 0, none⟩), .pointer (some ⟨q6, 0, none⟩)])) (go_keep) (first | (go_at_call 19; refine Calls.mono (HSF.out _ ?_) ?_; exact hWg5; rintro e w6 ⟨rfl, q, hw6⟩; have hW6 : Rw w w6 B g L cap (c.rnd (sent2 n m d R) p j) := (by rw [hw6]; exact (hW5.drew 1).drew q); clear hw6; have u6 := hW6.gr.cell HC6.out (by simpa using hsp); have u2 := hW6.gr.cell HC2.out (by simpa using hsp); unfold clo at u2; have um := hW6.cell im hiL; have uf := hW6.frozen im))
              have hWn := hW6.set im vv
              rw [← HST.out] at hWn
              go_wp2_with fail
              go_roundg (hi + 3 - (K + 2)).toNat
              case measure => omega
              case rel => exact ⟨j + 1, K + 2, rfl, Nat.le_refl _, by omega, by omega, show _ = _ by have := HK.out; omega, hWn⟩
            · go_wp2_with fail
              go_end0
              have hJ : j = count n m d := by
                unfold count ixHigh ixLow
                rw [HLH.out.1, HLH.out.2]
                have := HP.out
                have := HK.out
                omega
              have hfin : c.fin d R = c.rnd (sent2 n m d R) p j := by
                unfold Parts.fin
                rw [Hn.out.1, Hn.out.2, ← hJ]
                congr 1
                unfold ixLow
                rw [HLH.out.1]
                have := HP.out
                omega
              rw [hfin]
              exact ⟨rfl, hW⟩
end Go.Proofs.Ybulkdew
