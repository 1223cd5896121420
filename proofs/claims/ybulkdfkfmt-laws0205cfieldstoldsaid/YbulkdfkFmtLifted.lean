import Derived.Test.YbulkdfkFmtLaw
import Derived.Test.YbulkdfkFmtLaid
import Derived.Stop.JoinedAt
import Derived.Stop.JoinedTold
import Derived.Lib.LaidU8
import Derived.Deep.DeepWitnessRef
import Derived.WideShapes
import Derived.OpenShut
import Derived.Carry
namespace Go.Proofs.YbulkdfkFmt
open Go.ChangeShapes Go.WideShapes Go.ChangeAt Go.RowKit Go.Kit Go.Lib
open Go.Extern.Stop Go.Stop Go.Extern
theorem own : ownKnob Ybaf.prog.godebug = none := by kernel_rfl
theorem laidOut : laidOutB Ybaf.prog = true := by kernel_rfl
theorem cells42 : Ybaf.prog.cellsOf 42 = 22 := by kernel_rfl
theorem cells40 : Ybaf.prog.cellsOf 40 = 1 := by kernel_rfl
theorem cells3 : Ybaf.prog.cellsOf 3 = 1 := by kernel_rfl
theorem cells4 : Ybaf.prog.cellsOf 4 = 1 := by kernel_rfl
theorem cells5 : Ybaf.prog.cellsOf 5 = 1 := by kernel_rfl
theorem cells22 : Ybaf.prog.cellsOf 22 = 1 := by kernel_rfl
theorem cells53 : Ybaf.prog.cellsOf 53 = 1 := by kernel_rfl
theorem cells51 : Ybaf.prog.cellsOf 51 = 1 := by kernel_rfl

/-- A slice of bytes that reads is a source of the hex walk. -/
theorem src_of {H : Type} {enc : TypeId × Value → H} {w : World} {n : Nat} {v : Value} {x : DataW H × List MemPlace}
    (h : DataW.trod enc Ybaf.prog w 0 (fun _ => true) true n 22 [v] = some x) : ∃ a l c zs, v = .slice a l c ∧ Src w a l c zs := by
  rcases open_ints Ybaf.underlying22 Ybaf.underlying5 cells5 h with ⟨hcs, _⟩ | ⟨a, l, c, zs, hcs, _, hl, hm, hz, _, hcell, hwz⟩
  · exact ⟨none, 0, 0, [], by simpa using hcs, rfl, fun i hi => by omega, .inl rfl⟩
  · refine ⟨some a, l, c, zs.take l, by simpa using hcs, ?_, ?_, ?_⟩
    · simp at hz ⊢; omega
    · intro i hi
      have hil : i < zs.length := by simp at hz; omega
      have e : (zs.take l).getD i 0 = zs[i] := by simp [List.getD, hi, hil]
      have hw := hwz zs[i] (List.getElem_mem hil)
      simp [Lit.wf, IntKind.min, IntKind.max, IntKind.signed, IntKind.bits] at hw
      rw [e]; omega
    · by_cases h0 : l = 0
      · exact .inl h0
      right
      have hg : ∀ i, i < l → w.cell? (a.add i) = some (.int .u8 ((zs.take l).getD i 0)) := by
        intro i hi
        have hil : i < zs.length := by simp at hz; omega
        rw [hcell i hil]
        simp [List.getD, hi, hil]
      have h1 := hg 0 (by omega)
      obtain ⟨b, o, s⟩ := a
      cases s with
      | some s => exfalso; simp [World.cell?, Addr.add] at h1; split at h1 <;> cases h1
      | none => exact ⟨b, o, rfl, block_lt_of_cell h1, fun i hi => by have := hg i hi; rwa [add_plain] at this⟩

theorem z0_of {W : World} (hL : laidMet Ybaf.prog Rows.lawS0205CFieldsRow.laid W) : W.cell? ⟨2, 0, none⟩ = some (.pointer none) := by
  obtain ⟨g, t, cs, fuel, p, hg, ht, hv, hr⟩ := Lib.laidMet.reads hL (n := "net/netip.z0") (d := Rows.laid_net_netip_z0) (by simp [Rows.lawS0205CFieldsRow])
  have e1 : Ybaf.prog.globalNamed "net/netip.z0" = some 2 := by kernel_rfl
  have e2 : (Ybaf.prog.globals[2]?).map (·.type) = some 53 := by kernel_rfl
  rw [e1] at hg; cases hg
  rw [e2] at ht; cases ht
  obtain ⟨y0, n, hx, hl, h0⟩ := trod_struct1 Ybaf.underlying53 hr
  simp only [Rows.laid_net_netip_z0, Prod.mk.injEq, DataW.agg.injEq, List.cons.injEq] at hx
  rw [cells53] at hl
  match hcs : cs.toList, hl with
  | [c0], _ =>
    rw [hcs] at h0
    simp [cells51] at h0
    rcases DataW.trod_pointer Ybaf.underlying51 h0 with ⟨hc, _⟩ | ⟨a, cs', y, m, _, hc, hy, _, _⟩
    · unfold World.var? at hv
      rw [e1] at hv
      simp only [Option.bind_some] at hv
      split at hv
      · rename_i cs2 _ _ hh
        cases hv
        have : cs = #[.pointer none] := by cases cs; simp_all
        simp [World.cell?, hh, this]
      · cases hv
    · rw [hy] at hx; simp at hx

theorem array22 {cs : Array Value} (h : cs.size = 22) : ∃ c0 c1 c2 c3 c4 c5 c6 c7 c8 c9 c10 c11 c12 c13 c14 c15 c16 c17 c18 c19 c20 c21, cs = #[c0, c1, c2, c3, c4, c5, c6, c7, c8, c9, c10, c11, c12, c13, c14, c15, c16, c17, c18, c19, c20, c21] := by
  obtain ⟨l⟩ := cs
  match l, h with
  | [c0, c1, c2, c3, c4, c5, c6, c7, c8, c9, c10, c11, c12, c13, c14, c15, c16, c17, c18, c19, c20, c21], _ => exact ⟨c0, c1, c2, c3, c4, c5, c6, c7, c8, c9, c10, c11, c12, c13, c14, c15, c16, c17, c18, c19, c20, c21, rfl⟩

theorem open_int1 {H : Type} {enc : TypeId × Value → H} {w : World} {sp : Nat → Bool} {b : Nat} {held : Bool} {t : TypeId} {k : IntKind} {n : Nat} {v : Value} {x : DataW H × List MemPlace} (hu : Ybaf.prog.underlying t = some (.int k))
    (h : DataW.trod enc Ybaf.prog w b sp held n t [v] = some x) : ∃ z, v = .int k z := by
  obtain ⟨z, h1, _⟩ := DataW.trod_int hu h
  exact ⟨z, by simpa using h1⟩
theorem open_bool1 {H : Type} {enc : TypeId × Value → H} {w : World} {sp : Nat → Bool} {b : Nat} {held : Bool} {t : TypeId} {n : Nat} {v : Value} {x : DataW H × List MemPlace} (hu : Ybaf.prog.underlying t = some .bool)
    (h : DataW.trod enc Ybaf.prog w b sp held n t [v] = some x) : ∃ z, v = .bool z := by
  obtain ⟨z, h1, _⟩ := DataW.trod_bool hu h
  exact ⟨z, by simpa using h1⟩

set_option maxRecDepth 100000 in
set_option maxHeartbeats 4000000 in
theorem open_hdr {H : Type} {enc : TypeId × Value → H} {W : World} {base : Nat} {v : Value} {d : DataW H} {p : List MemPlace} (hv : Value.okWide Ybaf.prog W .any base 42 v) (h : DataW.Trod enc Ybaf.prog W 0 (fun _ => true) true 42 v d p) :
    ∃ (len h1 h2 l1 l2 o0 o1 o2 o3 : Int) (oa : Bool) (o5 o6 a0 a1 a2 a3 recs seq clo lost : Int) (p1 : Option Addr) (n1 c1 : Nat) (p2 : Option Addr) (n2 c2 : Nat) (z1 z2 : List Int), v = .agg #[.int .u32 len, .int .i64 h1, .int .i64 h2, .int .i64 l1, .int .i64 l2, .int .i64 o0, .int .i64 o1, .int .i64 o2, .int .i64 o3, .bool oa, .int .i64 o5, .int .i64 o6, .int .i64 a0, .int .i64 a1, .int .i64 a2, .int .i64 a3, .int .u32 recs, .int .u32 seq, .int .u8 clo, .int .u8 lost, .slice p1 n1 c1, .slice p2 n2 c2] ∧ Src W p1 n1 c1 z1 ∧ Src W p2 n2 c2 z2 := by
  obtain ⟨cs, rfl, hsz⟩ := okWide_struct Ybaf.underlying42 hv
  obtain ⟨c0, c1, c2, c3, c4, c5, c6, c7, c8, c9, c10, c11, c12, c13, c14, c15, c16, c17, c18, c19, c20, c21, rfl⟩ := array22 (hsz.trans cells42)
  obtain ⟨fuel, hf⟩ := h
  obtain ⟨xs, n, _, _, _, hlen, hF⟩ := DataW.trod_struct Ybaf.underlying42 hf
  have hg : ∀ (i : Nat) (f : Field), _ := fun i f h => hF i f h
  have k0 : DataW.trod enc Ybaf.prog W 0 (fun _ => true) true n 40 [c0] = xs[0]? := by have := hF 0 _ rfl; simpa [Value.cells, cells40] using this
  rw [List.getElem?_eq_getElem (by rw [hlen]; decide)] at k0
  have k1 : DataW.trod enc Ybaf.prog W 0 (fun _ => true) true n 3 [c1] = xs[1]? := by have := hF 1 _ rfl; simpa [Value.cells, cells3] using this
  rw [List.getElem?_eq_getElem (by rw [hlen]; decide)] at k1
  have k2 : DataW.trod enc Ybaf.prog W 0 (fun _ => true) true n 3 [c2] = xs[2]? := by have := hF 2 _ rfl; simpa [Value.cells, cells3] using this
  rw [List.getElem?_eq_getElem (by rw [hlen]; decide)] at k2
  have k3 : DataW.trod enc Ybaf.prog W 0 (fun _ => true) true n 3 [c3] = xs[3]? := by have := hF 3 _ rfl; simpa [Value.cells, cells3] using this
  rw [List.getElem?_eq_getElem (by rw [hlen]; decide)] at k3
  have k4 : DataW.trod enc Ybaf.prog W 0 (fun _ => true) true n 3 [c4] = xs[4]? := by have := hF 4 _ rfl; simpa [Value.cells, cells3] using this
  rw [List.getElem?_eq_getElem (by rw [hlen]; decide)] at k4
  have k5 : DataW.trod enc Ybaf.prog W 0 (fun _ => true) true n 3 [c5] = xs[5]? := by have := hF 5 _ rfl; simpa [Value.cells, cells3] using this
  rw [List.getElem?_eq_getElem (by rw [hlen]; decide)] at k5
  have k6 : DataW.trod enc Ybaf.prog W 0 (fun _ => true) true n 3 [c6] = xs[6]? := by have := hF 6 _ rfl; simpa [Value.cells, cells3] using this
  rw [List.getElem?_eq_getElem (by rw [hlen]; decide)] at k6
  have k7 : DataW.trod enc Ybaf.prog W 0 (fun _ => true) true n 3 [c7] = xs[7]? := by have := hF 7 _ rfl; simpa [Value.cells, cells3] using this
  rw [List.getElem?_eq_getElem (by rw [hlen]; decide)] at k7
  have k8 : DataW.trod enc Ybaf.prog W 0 (fun _ => true) true n 3 [c8] = xs[8]? := by have := hF 8 _ rfl; simpa [Value.cells, cells3] using this
  rw [List.getElem?_eq_getElem (by rw [hlen]; decide)] at k8
  have k9 : DataW.trod enc Ybaf.prog W 0 (fun _ => true) true n 4 [c9] = xs[9]? := by have := hF 9 _ rfl; simpa [Value.cells, cells4] using this
  rw [List.getElem?_eq_getElem (by rw [hlen]; decide)] at k9
  have k10 : DataW.trod enc Ybaf.prog W 0 (fun _ => true) true n 3 [c10] = xs[10]? := by have := hF 10 _ rfl; simpa [Value.cells, cells3] using this
  rw [List.getElem?_eq_getElem (by rw [hlen]; decide)] at k10
  have k11 : DataW.trod enc Ybaf.prog W 0 (fun _ => true) true n 3 [c11] = xs[11]? := by have := hF 11 _ rfl; simpa [Value.cells, cells3] using this
  rw [List.getElem?_eq_getElem (by rw [hlen]; decide)] at k11
  have k12 : DataW.trod enc Ybaf.prog W 0 (fun _ => true) true n 3 [c12] = xs[12]? := by have := hF 12 _ rfl; simpa [Value.cells, cells3] using this
  rw [List.getElem?_eq_getElem (by rw [hlen]; decide)] at k12
  have k13 : DataW.trod enc Ybaf.prog W 0 (fun _ => true) true n 3 [c13] = xs[13]? := by have := hF 13 _ rfl; simpa [Value.cells, cells3] using this
  rw [List.getElem?_eq_getElem (by rw [hlen]; decide)] at k13
  have k14 : DataW.trod enc Ybaf.prog W 0 (fun _ => true) true n 3 [c14] = xs[14]? := by have := hF 14 _ rfl; simpa [Value.cells, cells3] using this
  rw [List.getElem?_eq_getElem (by rw [hlen]; decide)] at k14
  have k15 : DataW.trod enc Ybaf.prog W 0 (fun _ => true) true n 3 [c15] = xs[15]? := by have := hF 15 _ rfl; simpa [Value.cells, cells3] using this
  rw [List.getElem?_eq_getElem (by rw [hlen]; decide)] at k15
  have k16 : DataW.trod enc Ybaf.prog W 0 (fun _ => true) true n 40 [c16] = xs[16]? := by have := hF 16 _ rfl; simpa [Value.cells, cells40] using this
  rw [List.getElem?_eq_getElem (by rw [hlen]; decide)] at k16
  have k17 : DataW.trod enc Ybaf.prog W 0 (fun _ => true) true n 40 [c17] = xs[17]? := by have := hF 17 _ rfl; simpa [Value.cells, cells40] using this
  rw [List.getElem?_eq_getElem (by rw [hlen]; decide)] at k17
  have k18 : DataW.trod enc Ybaf.prog W 0 (fun _ => true) true n 5 [c18] = xs[18]? := by have := hF 18 _ rfl; simpa [Value.cells, cells5] using this
  rw [List.getElem?_eq_getElem (by rw [hlen]; decide)] at k18
  have k19 : DataW.trod enc Ybaf.prog W 0 (fun _ => true) true n 5 [c19] = xs[19]? := by have := hF 19 _ rfl; simpa [Value.cells, cells5] using this
  rw [List.getElem?_eq_getElem (by rw [hlen]; decide)] at k19
  have k20 : DataW.trod enc Ybaf.prog W 0 (fun _ => true) true n 22 [c20] = xs[20]? := by have := hF 20 _ rfl; simpa [Value.cells, cells22] using this
  rw [List.getElem?_eq_getElem (by rw [hlen]; decide)] at k20
  have k21 : DataW.trod enc Ybaf.prog W 0 (fun _ => true) true n 22 [c21] = xs[21]? := by have := hF 21 _ rfl; simpa [Value.cells, cells22] using this
  rw [List.getElem?_eq_getElem (by rw [hlen]; decide)] at k21
  clear hF hg
  obtain ⟨e0, rfl⟩ := open_int1 Ybaf.underlying40 k0
  obtain ⟨e1, rfl⟩ := open_int1 Ybaf.underlying3 k1
  obtain ⟨e2, rfl⟩ := open_int1 Ybaf.underlying3 k2
  obtain ⟨e3, rfl⟩ := open_int1 Ybaf.underlying3 k3
  obtain ⟨e4, rfl⟩ := open_int1 Ybaf.underlying3 k4
  obtain ⟨e5, rfl⟩ := open_int1 Ybaf.underlying3 k5
  obtain ⟨e6, rfl⟩ := open_int1 Ybaf.underlying3 k6
  obtain ⟨e7, rfl⟩ := open_int1 Ybaf.underlying3 k7
  obtain ⟨e8, rfl⟩ := open_int1 Ybaf.underlying3 k8
  obtain ⟨e9, rfl⟩ := open_bool1 Ybaf.underlying4 k9
  obtain ⟨e10, rfl⟩ := open_int1 Ybaf.underlying3 k10
  obtain ⟨e11, rfl⟩ := open_int1 Ybaf.underlying3 k11
  obtain ⟨e12, rfl⟩ := open_int1 Ybaf.underlying3 k12
  obtain ⟨e13, rfl⟩ := open_int1 Ybaf.underlying3 k13
  obtain ⟨e14, rfl⟩ := open_int1 Ybaf.underlying3 k14
  obtain ⟨e15, rfl⟩ := open_int1 Ybaf.underlying3 k15
  obtain ⟨e16, rfl⟩ := open_int1 Ybaf.underlying40 k16
  obtain ⟨e17, rfl⟩ := open_int1 Ybaf.underlying40 k17
  obtain ⟨e18, rfl⟩ := open_int1 Ybaf.underlying5 k18
  obtain ⟨e19, rfl⟩ := open_int1 Ybaf.underlying5 k19
  obtain ⟨p1, n1, d1, z1, rfl, s1⟩ := src_of k20
  obtain ⟨p2, n2, d2, z2, rfl, s2⟩ := src_of k21
  exact ⟨e0, e1, e2, e3, e4, e5, e6, e7, e8, e9, e10, e11, e12, e13, e14, e15, e16, e17, e18, e19, p1, n1, d1, p2, n2, d2, z1, z2, rfl, s1, s2⟩

set_option maxRecDepth 100000 in
theorem lifted (os : Os) (started : os.Started) (H : Type) (enc : TypeId × Value → H) :
    ReturnsInTold none {} Ybaf.checked os 7 .any Input.okWide ((OpenSpec.ofChange Rows.lawS0205CFieldsSpec).preRow enc Ybaf.prog Ybaf.f7 Rows.lawS0205CFieldsRow.domain false Rows.lawS0205CFieldsRow.laid) (fun F => ((OpenSpec.ofChange Rows.lawS0205CFieldsSpec).at F).post enc Ybaf.prog Ybaf.f7 false true false false) (aloneAtReturn Ybaf.prog) nothingAlways := by
  refine returnsInTold_of_row (C := Ybaf.checked) (s := (OpenSpec.ofChange Rows.lawS0205CFieldsSpec)) (by kernel_rfl) own started (by kernel_rfl) Ybaf.func7
    (OpenSpec.witness_stopped_atRef (enc := enc) (C := Ybaf.checked) false (laidWorld os) wArgs rfl (by kernel_rfl) (by kernel_rfl) (by kernel_rfl) (witness_row os enc)) ?_
  intro F W base args ds gs before _ hF hval0 hW hcnd0 _ _ hL _
  have hval : ∀ (j : Nat) t v, Ybaf.f7.params[j]? = some t → args[j]? = some v → Value.okWide Ybaf.prog W .any base t v := hval0
  have hW' := hW
  obtain ⟨p, q, hA0, hV0, rfl, _, _⟩ := hW
  have hA : DataW.TrodAll enc Ybaf.prog W 0 (fun _ => true) true Ybaf.f7.params.toList args.toList ds p := hA0
  rw [Ybaf.params7] at hA hval
  obtain ⟨v0, d0, rfl, rfl, h0⟩ := trodAll_one hA
  obtain ⟨rfl, rfl⟩ := trodVars_none hV0
  have k0 := h0
  have lt0 : ∀ x ∈ p, x.block < W.heap.size := by obtain ⟨m, hm⟩ := k0; exact DataW.trod_lt m _ _ _ hm
  obtain ⟨len, h1, h2, l1, l2, o0, o1, o2, o3, oa, o5, o6, a0, a1, a2, a3, recs, seq, clo, lost, p1, n1, c1, p2, n2, c2, z1, z2, rfl, s1, s2⟩ := open_hdr (hval 0 42 v0 rfl rfl) h0
  clear hA0 hval0 hval hA hV0
  have hz := z0_of hL
  refine (law F.told len h1 h2 l1 l2 o0 o1 o2 o3 oa o5 o6 a0 a1 a2 a3 recs seq clo lost p1 n1 c1 p2 n2 c2 z1 z2 W hF hz s1 s2).mono ?_
  rintro e W' ⟨rfl, bel⟩
  refine ⟨_, rfl, _, _, _, [], _, [], hW', trodAll_mk1 (shut_bool Ybaf.underlying4 _), trodAll_mk1 (Below.trod laidOut (by kernel_rfl) (of_decide_eq_true (by kernel_rfl)) k0 bel lt0), rfl, bel.frame _, fun h => by cases h⟩
end Go.Proofs.YbulkdfkFmt
