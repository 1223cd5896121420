import Derived.Test.YbulkdfkFmtLoop
import Derived.Test.YbulkdfkFmtCards
import Derived.SevenToldRow
import Derived.Stop.JoinedAt
import Derived.Stop.JoinedTold
import Derived.WideShapes
import Derived.OpenShut
import Derived.Carry
import Derived.ChangeSlices
namespace Go.Proofs.YbulkdfkFmt.lawS0205BSplits
open Go.ChangeShapes Go.WideShapes Go.ChangeAt Go.RowKit Go.Kit
open Go.Extern.Stop Go.Stop Go.Extern
theorem own : ownKnob Ybaf.prog.godebug = none := by kernel_rfl
theorem laidOut : laidOutB Ybaf.prog = true := by kernel_rfl
theorem cells5 : Ybaf.prog.cellsOf 5 = 1 := by kernel_rfl

/-- A slice of bytes that came in. -/
theorem src_in {H : Type} {enc : TypeId × Value → H} {w : World} {n : Nat} {a : Option Addr} {l c : Nat} {x : DataW H × List MemPlace}
    (h : DataW.trod enc Ybaf.prog w 0 (fun _ => true) true n 22 [.slice a l c] = some x) : ∃ zs, Src w a l c zs := by
  rcases open_ints Ybaf.underlying22 Ybaf.underlying5 cells5 h with ⟨hcs, _⟩ | ⟨a', l', c', zs, hcs, _, hl, hm, hz, _, hcell, hwz⟩
  · simp at hcs
    obtain ⟨rfl, rfl, rfl⟩ := hcs
    exact ⟨[], rfl, fun i hi => by omega, .inl rfl⟩
  · simp only [List.cons.injEq, Value.slice.injEq, and_true] at hcs
    obtain ⟨rfl, rfl, rfl⟩ := hcs
    refine ⟨zs.take l, ?_, ?_, ?_⟩
    · simp at hz ⊢; omega
    · intro i hi
      have hil : i < zs.length := by simp at hz; omega
      have e : (zs.take l).getD i 0 = zs[i] := by simp [List.getD, hi, hil]
      have hw := hwz zs[i] (List.getElem_mem hil)
      simp [Lit.wf, IntKind.min, IntKind.max, IntKind.signed, IntKind.bits] at hw
      rw [e]; omega
    · by_cases h0 : l = 0
      · exact .inl h0
      right
      have hg : ∀ i, i < l → w.cell? (a'.add i) = some (.int .u8 ((zs.take l).getD i 0)) := by
        intro i hi
        have hil : i < zs.length := by simp at hz; omega
        rw [hcell i hil]
        simp [List.getD, hi, hil]
      have h1 := hg 0 (by omega)
      obtain ⟨b, o, s⟩ := a'
      cases s with
      | some s => exfalso; simp [World.cell?, Addr.add] at h1; split at h1 <;> cases h1
      | none => exact ⟨b, o, rfl, block_lt_of_cell h1, fun i hi => by have := hg i hi; rwa [add_plain] at this⟩

theorem law (a0 : Option Addr) (n0 c0 : Nat) (a1 : Option Addr) (n1 c1 : Nat) (z0 z1 : List Int) (tr : Int) (w : World) (s0 : Src w a0 n0 c0 z0) (s1 : Src w a1 n1 c1 z1) (t0 : 0 ≤ tr) (t1 : tr < 256) :
    Calls Ybaf.prog 5 #[.slice a0 n0 c0, .slice a1 n1 c1, .int .u8 tr] w fun x w' => x = .returned (.bool true) ∧ Below w.heap.size w w' := by
  by_cases h : n0 ≤ 1024 ∧ n1 ≤ 1024
  · exact law_short a0 n0 c0 a1 n1 c1 z0 z1 tr w s0 s1 h.1 h.2 t0 t1
  · exact law_long a0 n0 c0 a1 n1 c1 tr w (by omega)

set_option maxRecDepth 100000 in
theorem lifted (os : Os) (started : os.Started) (H : Type) (enc : TypeId × Value → H) :
    ReturnsInTold none {} Ybaf.checked os 5 .any Input.okWide ((OpenSpec.ofChange Rows.lawS0205BSplitsSpec).preRow enc Ybaf.prog Ybaf.f5 [] false []) (fun F => ((OpenSpec.ofChange Rows.lawS0205BSplitsSpec).at F).post enc Ybaf.prog Ybaf.f5 false true false false) (aloneAtReturn Ybaf.prog) nothingAlways := by
  refine returnsInTold_of_row (C := Ybaf.checked) (s := (OpenSpec.ofChange Rows.lawS0205BSplitsSpec)) (by kernel_rfl) own started (by kernel_rfl) Ybaf.func5
    (OpenSpec.witness_stopped (enc := enc) (C := Ybaf.checked) false ⟨#[], #[.slice none 0 0, .slice none 0 0, .int .u8 0], []⟩ 8 (by kernel_rfl) (by kernel_rfl) (by kernel_rfl) (by kernel_rfl)) ?_
  intro F W base args ds gs before _ hF hval0 hW _ _ hsz _ _
  have hval : ∀ (j : Nat) t v, Ybaf.f5.params[j]? = some t → args[j]? = some v → Value.okWide Ybaf.prog W .any base t v := hval0
  have hW' := hW
  obtain ⟨p, q, hA0, hV, rfl, _, _⟩ := hW
  have hA : DataW.TrodAll enc Ybaf.prog W 0 (fun _ => true) true Ybaf.f5.params.toList args.toList ds p := hA0
  rw [Ybaf.params5] at hA hval
  obtain ⟨v0, vs0, d0, ds0, p0, q0, hargs, rfl, rfl, k0, r0⟩ := trodAll_cons hA
  obtain ⟨v1, vs1, d1, ds1, p1, q1, rfl, rfl, rfl, k1, r1⟩ := trodAll_cons r0
  obtain ⟨v2, vs2, d2, ds2, p2, q2, rfl, rfl, rfl, k2, r2⟩ := trodAll_cons r1
  obtain ⟨rfl, rfl, rfl⟩ := trodAll_nil r2
  obtain rfl : args = #[v0, v1, v2] := by cases args; simp_all
  obtain ⟨rfl, rfl⟩ := trodVars_none hV
  obtain ⟨a0, len0, cap0, rfl⟩ := okWide_slice Ybaf.underlying22 (hval 0 22 v0 rfl rfl)
  obtain ⟨a1, len1, cap1, rfl⟩ := okWide_slice Ybaf.underlying22 (hval 1 22 v1 rfl rfl)
  obtain ⟨c, rfl, rfl, rfl, wc⟩ := open_int Ybaf.underlying5 (hval 2 5 v2 rfl rfl) k2
  have lt0 : ∀ x ∈ p0, x.block < W.heap.size := by obtain ⟨m, hm⟩ := k0; exact DataW.trod_lt m _ _ _ hm
  have lt1 : ∀ x ∈ p1, x.block < W.heap.size := by obtain ⟨m, hm⟩ := k1; exact DataW.trod_lt m _ _ _ hm
  obtain ⟨z0, s0⟩ : ∃ zs, Src W a0 len0 cap0 zs := by obtain ⟨m, hm⟩ := k0; exact src_in hm
  obtain ⟨z1, s1⟩ : ∃ zs, Src W a1 len1 cap1 zs := by obtain ⟨m, hm⟩ := k1; exact src_in hm
  obtain ⟨c0, c1⟩ : 0 ≤ c ∧ c < 256 := by
    have := wc
    simp [Lit.wf, IntKind.min, IntKind.max, IntKind.signed, IntKind.bits] at this
    omega
  clear hA0 hval0 hA
  refine (law a0 len0 cap0 a1 len1 cap1 z0 z1 c W s0 s1 c0 c1).mono ?_
  rintro e W' ⟨rfl, bel⟩
  exact ⟨_, rfl, _, _, _, [], _, [], hW', trodAll_mk1 (shut_bool Ybaf.underlying4 _), (trodAll_cons_mk (Below.trod laidOut (by kernel_rfl) (of_decide_eq_true (by kernel_rfl)) k0 bel lt0) (trodAll_cons_mk (Below.trod laidOut (by kernel_rfl) (of_decide_eq_true (by kernel_rfl)) k1 bel lt1) (trodAll_cons_mk (shut_int Ybaf.underlying5 wc) trodAll_mk0))), rfl, bel.frame _, fun h => by cases h⟩

theorem stops : Ybaf.pinned.checked.prog.stops = ["fmt.errorf", "fmt.Sprintf, its operands' methods called"] := by kernel_rfl
theorem stopKnobs : Ybaf.pinned.checked.prog.stopKnobs = [] := by kernel_rfl
theorem quietOs (os : Os) : Stop.quiet Ybaf.pinned.checked.prog os := by
  intro k hk
  rw [stopKnobs] at hk
  cases hk

/-- ████ THE STATEMENT ████ -/
theorem proved : Rows.LawS0205BSplitsToldSaid :=
  Claim7.holds_of_told_any 5 Ybaf.f5 "fmt.errorf" ["fmt.Sprintf, its operands' methods called"] [] _ _ _ (by kernel_rfl) rfl rfl rfl (show laidOutB Ybaf.pinned.checked.prog = true from laidOut) (by kernel_rfl) rfl ⟨rfl, rfl, rfl, rfl, rfl, rfl, rfl⟩ rfl rfl (by kernel_rfl) (by kernel_rfl) Ybaf.func5 (by kernel_rfl)
    (of_decide_eq_true (by kernel_rfl)) (of_decide_eq_true (by kernel_rfl)) stops.symm rfl stopKnobs.symm (by kernel_rfl)
    (by kernel_rfl) (by kernel_rfl) (by kernel_rfl) (by kernel_rfl) (by kernel_rfl) (by kernel_rfl) (by kernel_rfl) (by kernel_rfl) (by kernel_rfl) rfl (by kernel_rfl) rfl rfl
    rfl rfl
    rfl (by kernel_rfl) (by kernel_rfl) (by kernel_rfl) (by decide) (by kernel_rfl)
    (OpenClaim.moreEntering_of (by kernel_rfl) (by kernel_rfl) (by kernel_rfl) (by kernel_rfl) (by kernel_rfl) (by kernel_rfl) (by kernel_rfl) (by kernel_rfl) (by kernel_rfl) (by kernel_rfl))
    ⟨_, WideRow.started_initial, quietOs _⟩
    (fun os started _ H enc _ => lifted os started H enc)
#print axioms proved
end Go.Proofs.YbulkdfkFmt.lawS0205BSplits
