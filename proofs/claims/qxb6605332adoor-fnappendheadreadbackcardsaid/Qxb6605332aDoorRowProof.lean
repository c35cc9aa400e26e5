import Derived.Test.Qxb6605332aDoorRows
import Derived.Test.Qxb6605332aDoorLaw
import Derived.Deep.SlicePairs
import Derived.WalkKit
import Derived.ProofKit
import Derived.LaidMore
import Derived.OpenShut
import Derived.ShutString
import Derived.ChangeOld
import Derived.Below
import Derived.Stop.Joined
namespace Go.Proofs.Qxb6605332aDoor.fnAppendHeadReadBack
open Go.ChangeShapes Go.WideShapes Go.ChangeAt Go.RowKit
open Go.ChangeMaps (open_string shut_string)
set_option linter.unusedVariables false

theorem own : ownKnob Tryd.prog.godebug = none := by kernel_rfl
theorem laidOut : laidOutB Tryd.prog = true := by kernel_rfl
theorem gPow : Tryd.prog.globalNamed "internal/strconv.uint64pow10" = some 1 := by kernel_rfl
theorem tPow : (Tryd.prog.globals[1]?).map (·.type) = some 55 := by kernel_rfl
theorem cells46 : Tryd.prog.cellsOf 46 = 1 := by kernel_rfl
theorem cells55 : Tryd.prog.cellsOf 55 = 20 := by kernel_rfl
theorem cells29 : Tryd.prog.cellsOf 29 = 2 := by kernel_rfl
theorem cells9 : Tryd.prog.cellsOf 9 = 1 := by kernel_rfl

theorem pow_data : (Rows.laid_internal_strconv_uint64pow10 : DataW Unit) = Lib.tabData .u64 Lib.pow10Tab := by kernel_rfl

theorem of_laid {W : World} (h : laidMetH Tryd.prog Rows.fnAppendHeadReadBackRow.laid W) : Lib.TabIs Tryd.prog W "internal/strconv.uint64pow10" .u64 Lib.pow10Tab := by
  rw [MakeChecks.laidMetH_plain _ _ _ (by kernel_rfl)] at h
  obtain ⟨ps, ⟨g0, t0, cs0, f0, p0, q0, hg0, ht0, hv0, hd0, ⟨g1, t1, cs1, f1, p1, q1, hg1, ht1, hv1, hd1, ⟨g2, t2, cs2, f2, p2, q2, hg2, ht2, hv2, hd2, _, _⟩, _⟩, _⟩, _, _⟩ := h
  obtain rfl := Option.some.inj (gPow.symm.trans hg2)
  obtain rfl := Option.some.inj (tPow.symm.trans ht2)
  rw [pow_data] at hd2
  unfold Lib.TabIs
  rw [hv2, ← Lib.cells_of_tab Tryd.underlying55 Tryd.underlying46 cells46 cells55 hd2]

theorem door_met (os : Os) (args : Array Value) : laidMetH Tryd.prog Rows.fnAppendHeadReadBackRow.laid ((World.doorLaid Tryd.prog 400 os).forCall (fun _ _ => 0) ⟨#[], args, []⟩).memory :=
  laidMetH_of_parts3 (fuel := 8) (laidMet_of_run' 8 (by kernel_rfl) (by kernel_rfl)) (by kernel_rfl) (by kernel_rfl)

theorem open_bytes {H : Type} {enc : TypeId × Value → H} {W : World} {v : Value} {d : DataW H} {ps : List MemPlace} {sp : Nat → Bool} {a : Option Addr} {len cap : Nat} (hv : v = .slice a len cap)
    (h : DataW.Trod enc Tryd.prog W 0 sp true 25 v d ps) : ∃ bs, InB W v bs := by
  subst hv
  obtain ⟨fuel, hf⟩ := h
  rcases open_ints Tryd.underlying25 Tryd.underlying5 (by kernel_rfl) hf with ⟨hcs, _⟩ | ⟨x, l, c, zs, hcs, _, hl, hm, hz, _, hcell, hwz⟩
  · simp [Value.cells] at hcs
    obtain ⟨rfl, rfl, rfl⟩ := hcs
    exact ⟨[], .inl ⟨rfl, rfl⟩⟩
  · simp [Value.cells] at hcs
    obtain ⟨rfl, rfl, rfl⟩ := hcs
    have hll : len ≤ zs.length := by rw [hz]; split <;> omega
    have hbl : ((zs.take len).map fun z => UInt8.ofNat z.toNat).length = len := by rw [List.length_map, List.length_take]; omega
    refine ⟨(zs.take len).map fun z => UInt8.ofNat z.toNat, .inr ⟨x, cap, by rw [hbl], by rw [hbl]; exact hl, hm, fun i hi => ?_⟩⟩
    rw [hbl] at hi
    have hlt : i < zs.length := by omega
    have hb := bounds_u8 (hwz zs[i] (List.getElem_mem hlt))
    rw [hcell i hlt, List.getD_eq_getElem?_getD, List.getD_eq_getElem?_getD, List.getElem?_map, List.getElem?_take_of_lt hi, List.getElem?_eq_getElem hlt]
    simp only [Option.map_some, Option.getD_some, UInt8.toNat_ofNat']
    congr 2
    omega

theorem open_fields {H : Type} {enc : TypeId × Value → H} {W : World} {v : Value} {d : DataW H} {ps : List MemPlace} {sp : Nat → Bool} {a : Option Addr} {len cap : Nat} (hv : v = .slice a len cap)
    (h : DataW.Trod enc Tryd.prog W 0 sp true 26 v d ps) : ∃ hs, InF W v hs := by
  subst hv
  obtain ⟨fuel, hf⟩ := h
  rcases Deep.open_slice_pairs Tryd.underlying26 Tryd.underlying29 cells29 rfl rfl cells9 cells9 hf with ⟨hcs, _⟩ | ⟨x, l, c, m, n, V0, V1, D0, D1, P0, P1, hcs, _, hl, hm, hmm, _, hcell⟩
  · simp [Value.cells] at hcs
    obtain ⟨rfl, rfl, rfl⟩ := hcs
    exact ⟨[], .inl ⟨rfl, rfl⟩⟩
  · simp [Value.cells] at hcs
    obtain ⟨rfl, rfl, rfl⟩ := hcs
    have hlm : len ≤ m := by rw [hmm]; split <;> omega
    have each : ∀ i, ∃ p : ByteArray × ByteArray, i < m → W.cell? (x.add (i * 2)) = some (.string p.1) ∧ W.cell? (x.add (i * 2 + 1)) = some (.string p.2) := fun i => by
      by_cases hi : i < m
      · obtain ⟨h1, h2, h3, h4⟩ := hcell i hi
        obtain ⟨s1, e1, _⟩ := DataW.trod_string Tryd.underlying9 h3
        obtain ⟨s2, e2, _⟩ := DataW.trod_string Tryd.underlying9 h4
        exact ⟨(s1, s2), fun _ => ⟨by rw [h1]; simpa using e1, by rw [h2]; simpa using e2⟩⟩
      · exact ⟨(.empty, .empty), fun h => absurd h hi⟩
    have hch := fun i => Classical.choose_spec (each i)
    refine ⟨(List.range len).map fun i => Classical.choose (each i), .inr ⟨x, cap, by simp, by simpa using hl, hm, fun i p hp => ?_⟩⟩
    rw [List.getElem?_map] at hp
    by_cases hi : i < len
    · rw [List.getElem?_range hi] at hp
      cases hp
      exact hch i (by omega)
    · rw [List.getElem?_eq_none (by simp; omega)] at hp
      cases hp

set_option maxRecDepth 100000 in
theorem lifted (os : Os) (started : os.Started) (H : Type) (enc : TypeId × Value → H) :
    ReturnsInHanded {} Tryd.checked os 4 .any (fun w args => (Rows.fnAppendHeadReadBackSpec.pre enc Tryd.prog Tryd.f4 [] false w args ∧ laidMetH Tryd.prog Rows.fnAppendHeadReadBackRow.laid w) ∧ sizedMet enc Tryd.prog Tryd.f4 (OpenSpec.ofChange Rows.fnAppendHeadReadBackSpec) false w args)
      (Rows.fnAppendHeadReadBackSpec.post enc Tryd.prog Tryd.f4 false true false false) := by
  refine returnsInHanded_of_change_and (C := Tryd.checked) (X := fun w _ => laidMetH Tryd.prog Rows.fnAppendHeadReadBackRow.laid w) (fun _ _ _ hh h => h.of_heap hh) own started (by kernel_rfl) Tryd.func4
    (ChangeSpec.witness_shaped (enc := enc) (C := Tryd.checked) (os := os) (X := fun w _ => laidMetH Tryd.prog Rows.fnAppendHeadReadBackRow.laid w) false (World.doorLaid Tryd.prog 400 os) #[.slice none 0 0, .int .i64 0, .string ByteArray.empty, .slice none 0 0, .slice none 0 0, .bool false, .bool false, .slice none 0 0] 8 rfl (World.shaped_of_RefB (by kernel_rfl) (by kernel_rfl)) (by kernel_rfl) (by kernel_rfl) (by kernel_rfl) (door_met os _)) ?_
  intro W base args ds gs before hval0 hW _ _ hL _
  have hval : ∀ (j : Nat) t v, Tryd.f4.params[j]? = some t → args[j]? = some v → Value.okWide Tryd.prog W .any base t v := hval0
  have hW' := hW
  obtain ⟨p, q, hA0, hV, rfl, hfz, hnd⟩ := hW
  have hA : DataW.TrodAll enc Tryd.prog W 0 (fun _ => true) true Tryd.f4.params.toList args.toList ds p := hA0
  rw [Tryd.params4] at hA hval
  obtain ⟨v0, vs0, d0, ds0, p0, q0, hargs, rfl, rfl, h0, r0⟩ := trodAll_cons hA
  obtain ⟨v1, vs1, d1, ds1, p1, q1, rfl, rfl, rfl, h1, r1⟩ := trodAll_cons r0
  obtain ⟨v2, vs2, d2, ds2, p2, q2, rfl, rfl, rfl, h2, r2⟩ := trodAll_cons r1
  obtain ⟨v3, vs3, d3, ds3, p3, q3, rfl, rfl, rfl, h3, r3⟩ := trodAll_cons r2
  obtain ⟨v4, vs4, d4, ds4, p4, q4, rfl, rfl, rfl, h4, r4⟩ := trodAll_cons r3
  obtain ⟨v5, vs5, d5, ds5, p5, q5, rfl, rfl, rfl, h5, r5⟩ := trodAll_cons r4
  obtain ⟨v6, vs6, d6, ds6, p6, q6, rfl, rfl, rfl, h6, r6⟩ := trodAll_cons r5
  obtain ⟨v7, vs7, d7, ds7, p7, q7, rfl, rfl, rfl, h7, r7⟩ := trodAll_cons r6
  obtain ⟨rfl, rfl, rfl⟩ := trodAll_nil r7
  obtain rfl : args = #[v0, v1, v2, v3, v4, v5, v6, v7] := by cases args; simp_all
  obtain ⟨rfl, rfl⟩ := trodVars_none hV
  obtain ⟨a0, len0, cap0, e0⟩ := okWide_slice Tryd.underlying25 (hval 0 25 v0 rfl rfl)
  obtain ⟨a3, len3, cap3, e3⟩ := okWide_slice Tryd.underlying26 (hval 3 26 v3 rfl rfl)
  obtain ⟨a4, len4, cap4, e4⟩ := okWide_slice Tryd.underlying25 (hval 4 25 v4 rfl rfl)
  obtain ⟨a7, len7, cap7, e7⟩ := okWide_slice Tryd.underlying25 (hval 7 25 v7 rfl rfl)
  have k0 := h0
  have k3 := h3
  have k4 := h4
  have k7 := h7
  have lt0 : ∀ x ∈ p0, x.block < W.heap.size := by obtain ⟨m, hm⟩ := k0; exact DataW.trod_lt m _ _ _ hm
  have lt3 : ∀ x ∈ p3, x.block < W.heap.size := by obtain ⟨m, hm⟩ := k3; exact DataW.trod_lt m _ _ _ hm
  have lt4 : ∀ x ∈ p4, x.block < W.heap.size := by obtain ⟨m, hm⟩ := k4; exact DataW.trod_lt m _ _ _ hm
  have lt7 : ∀ x ∈ p7, x.block < W.heap.size := by obtain ⟨m, hm⟩ := k7; exact DataW.trod_lt m _ _ _ hm
  obtain ⟨bs, i0⟩ := open_bytes e0 h0
  obtain ⟨hs, i3⟩ := open_fields e3 h3
  obtain ⟨body, i4⟩ := open_bytes e4 h4
  obtain ⟨date, i7⟩ := open_bytes e7 h7
  obtain ⟨st, rfl, rfl, rfl, w1⟩ := open_int Tryd.underlying3 (hval 1 3 v1 rfl rfl) h1
  obtain ⟨ct, rfl, rfl, rfl, w2⟩ := open_string Tryd.underlying9 (hval 2 9 v2 rfl rfl) h2
  obtain ⟨b5, rfl, rfl, rfl⟩ := open_bool Tryd.underlying4 (hval 5 4 v5 rfl rfl) h5
  obtain ⟨b6, rfl, rfl, rfl⟩ := open_bool Tryd.underlying4 (hval 6 4 v6 rfl rfl) h6
  clear hA0 hval0
  have hst := bounds_i64 w1
  refine (law_any W v0 v3 v4 v7 bs body date st ct b5 b6 hs i0 i4 i7 i3 hst.1 hst.2 (Lib.tabBelow_of_tabIs (of_laid hL))).mono fun e W' ⟨he, bel⟩ => ?_
  subst he
  exact ⟨_, rfl, _, _, _, [], _, [], hW', trodAll_mk1 (shut_bool Tryd.underlying4 _), (trodAll_cons_mk (Below.trod laidOut (by kernel_rfl) (of_decide_eq_true (by kernel_rfl)) k0 bel lt0) (trodAll_cons_mk (shut_int Tryd.underlying3 w1) (trodAll_cons_mk (shut_string Tryd.underlying9 w2) (trodAll_cons_mk (Below.trod laidOut (by kernel_rfl) (of_decide_eq_true (by kernel_rfl)) k3 bel lt3) (trodAll_cons_mk (Below.trod laidOut (by kernel_rfl) (of_decide_eq_true (by kernel_rfl)) k4 bel lt4) (trodAll_cons_mk (shut_bool Tryd.underlying4 _) (trodAll_cons_mk (shut_bool Tryd.underlying4 _) (trodAll_cons_mk (Below.trod laidOut (by kernel_rfl) (of_decide_eq_true (by kernel_rfl)) k7 bel lt7) trodAll_mk0)))))))), rfl, bel.frame _, fun h => by cases h⟩

theorem over : Rows.FnAppendHeadReadBackSaid :=
  OpenClaim.holds_of_wide 4 Tryd.f4 rfl rfl rfl rfl rfl rfl rfl ⟨rfl, rfl, rfl, rfl, rfl⟩ rfl rfl rfl rfl rfl (by kernel_rfl) Tryd.func4 (by kernel_rfl)
    (of_decide_eq_true (by kernel_rfl)) (by unfold Func.isWrapper; first | (rw [if_pos (by decide +kernel)]; kernel_rfl) | (rw [if_neg (by decide +kernel)]; exact ⟨rfl, rfl⟩))
    (fun os started H enc _ => lifted os started H enc)
end Go.Proofs.Qxb6605332aDoor.fnAppendHeadReadBack
