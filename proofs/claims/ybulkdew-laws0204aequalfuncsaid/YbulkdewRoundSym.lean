import Derived.Test.YbulkdewDiag
namespace Go.Proofs.Ybulkdew
open Go.RowKit
set_option linter.unusedVariables false

theorem eq_nil_func (w : World) : (binOp .eql 30 .nilFunc .nilFunc).run Yba.prog w = .ok (.bool true) w := by kernel_rfl

set_option maxHeartbeats 4000000 in
set_option maxRecDepth 100000 in
theorem round_symbols (sp : Nat) (va vb : Value) (aa ab : Option Addr) (na nb ca cb : Nat) (c : Parts) (w : World) (B g L cap : Nat) (R : List Int) (aLo bLo n m d : Int)
    (c0 : w.cell? ⟨sp, 0, none⟩ = some va) (c1 : w.cell? ⟨sp, 1, none⟩ = some vb) (c2 : w.cell? ⟨sp, 2, none⟩ = some .nilFunc) (c6 : w.cell? ⟨sp, 6, none⟩ = some (.slice (some ⟨g, 0, none⟩) L cap)) (hsp : sp ≠ g)
    (sa : ∀ W, (Instr.slice 22 va (some (.int .i64 aLo)) (some (.int .i64 (aLo + n))) none).run Yba.prog W = .ok (.slice aa na ca) W)
    (sb : ∀ W, (Instr.slice 22 vb (some (.int .i64 bLo)) (some (.int .i64 (bLo + m))) none).run Yba.prog W = .ok (.slice ab nb cb) W)
    (va' : View .i64 w aa na c.a) (vb' : View .i64 w ab nb c.b) (ga : Away g aa) (gb : Away g ab) (hna : na ≤ 300) (hnb : nb ≤ 300) (hn : n = na) (hm : m = nb)
    (hd : 0 ≤ d ∧ d ≤ n + m + 1) (ha : 0 ≤ aLo ∧ aLo ≤ 300) (hb' : 0 ≤ bLo ∧ bLo ≤ 300)
    (hR : Rw w w B g L cap R) (hb : Bd (-1) 999 R) (hL : (L : Int) = n + m + 3) :
    Calls Yba.prog 10 #[.pointer (some ⟨sp, 0, none⟩), .int .i64 aLo, .int .i64 bLo, .int .i64 n, .int .i64 m, .int .i64 d] w
      fun e w' => e = .returned (.tuple #[]) ∧ Rw w w' B g L cap (c.fin d R) := by
  have hbd := lowD_bd (n := n) (m := m) (d := d) (by omega) (by omega) (by omega)
  have Hn : Hid (c.n = n ∧ c.m = m) := by
    refine ⟨?_, ?_⟩
    · show (c.a.length : Int) = n; rw [va'.size]; exact hn.symm
    · show (c.b.length : Int) = m; rw [vb'.size]; exact hm.symm
  have hnn : 0 ≤ n ∧ n ≤ 300 := by omega
  have hmm : 0 ≤ m ∧ m ≤ 300 := by omega
  have HN : Hid (n = na ∧ m = nb) := ⟨hn, hm⟩
  have HL : Hid ((L : Int) = n + m + 3) := hL
  have hL1 : (L : Int) ≤ 603 := by omega
  have hs := eq_nil_func
  have HC0 : Hid _ := c0
  have HC1 : Hid _ := c1
  have HC2 : Hid _ := c2
  have HC6 : Hid _ := c6
  clear hn hm hL
  go_enter Yba.func10, Yba.ntmps10
  go_wp2_with fail
  refine (diag n m d _ (by omega) (by omega) (by omega)).mono ?_
  rintro e w1 ⟨rfl, hw⟩
  rw [hw]
  clear hw w1
  generalize hlo : lowD n m d = lo at *
  generalize hhi : highD n m d = hi at *
  have HLH : Hid (lowD n m d = lo ∧ highD n m d = hi) := ⟨hlo, hhi⟩
  clear hlo hhi
  go_upto_region 2 with fail
  go_cut [41] (fun s41 wx => s41 = .bool (decide (lo = n - m - d ∨ lo = -m)) ∧ wx = w)
  case first =>
    by_cases e1 : lo = n - m - d
    · have b1 : (lo == n - m - d) = true := by simpa using e1
      have HD : Hid (decide (lo = n - m - d ∨ lo = -m) = true) := by show _ = _; simp [e1]
      clear e1
      go_wp2_with fail
      go_meet
      case rel => rw [HD.out]; exact ⟨rfl, rfl⟩
    · have b1 : (lo == n - m - d) = false := by simpa using e1
      by_cases e2 : lo = -m
      · have b2 : (lo == -m) = true := by simpa using e2
        have HD : Hid (decide (lo = n - m - d ∨ lo = -m) = true) := by show _ = _; simp [e2]
        clear e1 e2
        go_wp2_with fail
        go_meet
        case rel => rw [HD.out]; exact ⟨rfl, rfl⟩
      · have b2 : (lo == -m) = false := by simpa using e2
        have HD : Hid (decide (lo = n - m - d ∨ lo = -m) = false) := by show _ = _; simp [e1, e2]
        clear e1 e2
        go_wp2_with fail
        go_meet
        case rel => rw [HD.out]; exact ⟨rfl, rfl⟩
  case rest =>
    obtain ⟨rfl, hwc⟩ := hcut
    rw [hwc]
    clear hwc wc
    go_upto_if 41 with fail
    go_cut [] (fun wx => Rw w wx B g L cap (sent1 n m d R))
    case first =>
      by_cases e1 : lo = n - m - d ∨ lo = -m
      · have HS : Hid (sent1 n m d R = R.set (m + lo).toNat (n + 1)) := by show _ = _; unfold sent1; rw [HLH.out.1, if_pos e1]
        have hdc : decide (lo = n - m - d ∨ lo = -m) = true := by simpa using e1
        obtain ⟨k, hk⟩ : ∃ k : Nat, m + 1 + lo - 1 = k := ⟨(m + lo).toNat, by omega⟩
        have i2 : (k : Int) < (L : Int) := by have := HL.out; omega
        have k1 := hR.cell k (by omega)
        have f1 := hR.frozen k
        have hW := hR.set k (n + 1)
        have HK : Hid (k = (m + lo).toNat) := by show _ = _; omega
        rw [hdc]
        clear e1 hdc
        go_wp2_with fail
        go_meet
        case rel => rw [HS.out, ← HK.out]; exact hW
      · have HS : Hid (sent1 n m d R = R) := by show _ = _; unfold sent1; rw [HLH.out.1, if_neg e1]
        have hdc : decide (lo = n - m - d ∨ lo = -m) = false := by simpa using e1
        rw [hdc]
        clear e1 hdc
        go_wp2_with fail
        go_meet
        case rel => rw [HS.out]; exact hR
    case rest =>
      have hW1 := hcut
      clear hcut
      have c0' := hW1.gr.cell c0 (by simpa using hsp)
      have c1' := hW1.gr.cell c1 (by simpa using hsp)
      have c2' := hW1.gr.cell c2 (by simpa using hsp)
      have c6' := hW1.gr.cell c6 (by simpa using hsp)
      clear c0 c1 c2 c6
      obtain ⟨w1, hw1⟩ : ∃ w1, w1 = wc := ⟨_, rfl⟩
      rw [← hw1] at c0' c1' c2' c6' hW1
      rw [← hw1]
      clear hw1 wc
      go_upto_region 4 with fail
      go_cut [62] (fun s62 wx => s62 = .bool (decide (hi = n - m + d ∨ hi = n)) ∧ wx = w1)
      case first =>
        by_cases e1 : hi = n - m + d
        · have b1 : (hi == n - m + d) = true := by simpa using e1
          have HD : Hid (decide (hi = n - m + d ∨ hi = n) = true) := by show _ = _; simp [e1]
          clear e1
          go_wp2_with fail
          go_meet
          case rel => rw [HD.out]; exact ⟨rfl, rfl⟩
        · have b1 : (hi == n - m + d) = false := by simpa using e1
          by_cases e2 : hi = n
          · have b2 : (hi == n) = true := by simpa using e2
            have HD : Hid (decide (hi = n - m + d ∨ hi = n) = true) := by show _ = _; simp [e2]
            clear e1 e2
            go_wp2_with fail
            go_meet
            case rel => rw [HD.out]; exact ⟨rfl, rfl⟩
          · have b2 : (hi == n) = false := by simpa using e2
            have HD : Hid (decide (hi = n - m + d ∨ hi = n) = false) := by show _ = _; simp [e1, e2]
            clear e1 e2
            go_wp2_with fail
            go_meet
            case rel => rw [HD.out]; exact ⟨rfl, rfl⟩
      case rest =>
        obtain ⟨rfl, hwc⟩ := hcut
        rw [hwc]
        clear hwc wc
        go_upto_if 62 with fail
        go_cut [] (fun wx => Rw w wx B g L cap (sent2 n m d R))
        case first =>
          by_cases e1 : hi = n - m + d ∨ hi = n
          · have HS : Hid (sent2 n m d R = (sent1 n m d R).set (m + hi + 2).toNat (n + 1)) := by show _ = _; unfold sent2; rw [HLH.out.2, if_pos e1]
            have hdc : decide (hi = n - m + d ∨ hi = n) = true := by simpa using e1
            obtain ⟨k, hk⟩ : ∃ k : Nat, m + 1 + hi + 1 = k := ⟨(m + hi + 2).toNat, by omega⟩
            have i2 : (k : Int) < (L : Int) := by have := HL.out; omega
            have k1 := hW1.cell k (by omega)
            have f1 := hW1.frozen k
            have hW := hW1.set k (n + 1)
            have HK : Hid (k = (m + hi + 2).toNat) := by show _ = _; omega
            rw [hdc]
            clear e1 hdc
            go_wp2_with fail
            go_meet
            case rel => rw [HS.out, ← HK.out]; exact hW
          · have HS : Hid (sent2 n m d R = sent1 n m d R) := by show _ = _; unfold sent2; rw [HLH.out.2, if_neg e1]
            have hdc : decide (hi = n - m + d ∨ hi = n) = false := by simpa using e1
            rw [hdc]
            clear e1 hdc
            go_wp2_with fail
            go_meet
            case rel => rw [HS.out]; exact hW1
        case rest =>
          have hW2 := hcut
          clear hcut c0' c1' c2' c6' hW1
          obtain ⟨w2, hw2⟩ : ∃ w2, w2 = wc := ⟨_, rfl⟩
          rw [← hw2] at hW2
          rw [← hw2]
          clear hw2 wc
          have d0 := hW2.gr.cell HC0.out (by simpa using hsp)
          have d1 := hW2.gr.cell HC1.out (by simpa using hsp)
          have d2 := hW2.gr.cell HC2.out (by simpa using hsp)
          have d6 := hW2.gr.cell HC6.out (by simpa using hsp)
          have hlc : L ≤ cap := by
            rcases hR.own.2 with ⟨hh, _⟩ | ⟨g', cap', cur, hh, _, _, hn', _⟩
            · cases hh
            · cases hh; exact hn'
          obtain ⟨p', hp⟩ : ∃ k : Nat, m + 1 + lo - 1 = k := ⟨(m + lo).toNat, by omega⟩
          obtain ⟨e2, he2⟩ : ∃ k : Nat, m + 1 + hi + 2 = k := ⟨(m + hi + 3).toNat, by omega⟩
          have q1 : ¬ cap = p' := by have := HL.out; omega
          have q2 : (p' : Int) ≤ (e2 : Int) := by omega
          have q3 : (e2 : Int) ≤ (cap : Int) := by have := HL.out; omega
          have q4 : (0 : Int) ≤ (p' : Int) := by omega
          have hcalls := symbols aa ab na nb ca cb c w2.drew B g L cap p' (e2 - p') (cap - p') (sent2 n m d R) lo (va'.grown (hW2.drew 1).gr ga) (vb'.grown (hW2.drew 1).gr gb) ga gb hna hnb ⟨hW2.own, grownBy_refl _ _⟩ (sent2_bd (hb.wide (Int.le_refl _) (by omega)) (by omega) (by omega)) (by omega) (by omega) (by have := HL.out; omega) (by rw [Hn.out.2]; omega)
          have HC : Hid _ := hcalls
          clear hcalls
          have z1 : IntKind.i64.wrap (aLo + n) = aLo + n := by rw [IntKind.wrap_i64]; omega
          have z2 : IntKind.i64.wrap (bLo + m) = bLo + m := by rw [IntKind.wrap_i64]; omega
          have z3 : IntKind.i64.wrap (m + 1 + lo) = m + 1 + lo := by rw [IntKind.wrap_i64]; omega
          have z4 : IntKind.i64.wrap (p' : Int) = p' := by rw [IntKind.wrap_i64]; omega
          have z5 : IntKind.i64.wrap (m + 1 + hi) = m + 1 + hi := by rw [IntKind.wrap_i64]; omega
          have z6 : IntKind.i64.wrap (e2 : Int) = e2 := by rw [IntKind.wrap_i64]; omega
          go_wp2_with fail
          go_region_held3 (fun W => W.cell? ⟨sp, 0, none⟩ = some va ∧ W.cell? ⟨sp, 1, none⟩ = some vb ∧ W.cell? ⟨sp, 6, none⟩ = some (.slice (some ⟨g, 0, none⟩) L cap)) (go_keep) (first | (go_at_call 17; refine Calls.mono HC.out ?_; rintro e w3 ⟨rfl, hW3⟩; have s0 := hW3.gr.cell (a := ⟨sp, 0, none⟩) d0 (by simpa using hsp); have s1 := hW3.gr.cell (a := ⟨sp, 1, none⟩) d1 (by simpa using hsp); have s6 := hW3.gr.cell (a := ⟨sp, 6, none⟩) d6 (by simpa using hsp)))
          go_wp2_with fail
          refine bodyPost_ret (results_none rfl _ _ _) rfl ?_
          have hfin : c.fin d R = c.rnd (sent2 n m d R) (p' + 1) ((e2 - p' - 1) / 2) := by
            unfold Parts.fin count ixLow ixHigh
            rw [Hn.out.1, Hn.out.2, HLH.out.1, HLH.out.2, show (m + 1 + lo).toNat = p' + 1 by omega, show ((m + 1 + hi).toNat + 2 - (p' + 1)) = e2 - p' - 1 by omega]
          rw [hfin]
          exact ⟨rfl, ⟨hW3.own, grownBy_trans (hW2.drew 1).gr hW3.gr⟩⟩
end Go.Proofs.Ybulkdew
