import Derived.Test.Qxb6603812aTab
namespace Go.Proofs.Qxb6603812a
open Go.RowKit
set_option linter.unusedSimpArgs false

theorem Sq.of_beq (x n : UInt8) (h : (x == n) = true) : x = n := by simpa using h

namespace Sq
theorem tail_nil {l t : List UInt8} {i n : Nat} {x : UInt8} {hn : Bool} (h : l.drop i = x :: t) (hl : l.length = n) (hh : hn = decide (i + 1 < n)) : hn = false → t = [] := by
  intro h0
  rw [h0] at hh
  have h1 : ¬ i + 1 < n := of_decide_eq_false hh.symm
  have h2 := congrArg List.length h
  rw [List.length_drop, List.length_cons, hl] at h2
  exact List.length_eq_zero_iff.1 (by omega)
theorem tail_cons {l t : List UInt8} {i n : Nat} {x y : UInt8} {hn : Bool} (h : l.drop i = x :: t) (hl : l.length = n) (hh : hn = decide (i + 1 < n)) (hy : (l[i + 1]?).getD 0 = y) : hn = true → ∃ u, t = y :: u ∧ u.length = n - (i + 2) ∧ l.drop (i + 2) = u ∧ i + 2 ≤ n := by
  intro h0
  rw [h0] at hh
  have h1 : i + 1 < n := of_decide_eq_true hh.symm
  have ht : t = l.drop (i + 1) := by
    have := congrArg (List.drop 1) h
    rw [List.drop_drop, List.drop_succ_cons, List.drop_zero] at this
    exact this.symm
  have hy' : l[i + 1]? = some y := by
    rw [List.getElem?_eq_getElem (by omega)] at hy ⊢
    rw [← hy]; rfl
  refine ⟨l.drop (i + 2), ?_, by rw [List.length_drop, hl], rfl, by omega⟩
  rw [ht, drop_at hy']
theorem ne_of_bne {y a : UInt8} (h : (y != a) = true) : (a == y) = false := by
  have : y ≠ a := by simpa using h
  exact beq_eq_false_iff_ne.2 fun e => this e.symm
theorem eq_of_bne {y a : UInt8} (h : (y != a) = false) : y = a := by simpa using h
theorem cL_two (f : Fl) (u : List UInt8) : cL f (45 :: 45 :: u) = (!f.sd || u.length == 0 || decide ((u.headD 0).toNat ≤ 32)) := by
  have e1 : ((45 :: 45 :: u).length == 2) = (u.length == 0) := by
    rw [List.length_cons, List.length_cons, Bool.eq_iff_iff]; simp
  have e2 : (45 :: 45 :: u : List UInt8).getD 2 0 = u.headD 0 := by cases u <;> rfl
  unfold cL
  rw [e1, e2, show Lib.hasPrefix (45 :: 45 :: u) [45, 45] = true from by simp [pre_cons, Lib.hasPrefix]]
  rfl
end Sq

set_option maxHeartbeats 400000 in
theorem zzBytesC (fv : Sq.Fl) (s : ByteArray) (i : Int) (w : World) (hs : s.size ≤ 1048576) :
    Calls Try.prog 12 #[.agg #[.bool fv.ps, .bool fv.bs, .bool fv.es, .bool fv.dq, .bool fv.bt, .bool fv.hc, .bool fv.sd, .bool fv.nc, .bool fv.ec], .string s, .int .i64 i] w fun e w' => e = .returned (.bool true) ∧ Below w.heap.size w w' := by
  go_enter Try.func12, Try.ntmps12
  go_wp2
  go_ret
  exact ⟨rfl, (Below.refl _ _).alloc (Nat.le_refl _) _⟩

set_option maxHeartbeats 400000 in
theorem zzBytesC_no (fv : Sq.Fl) (s : ByteArray) (i : Int) (w : World) (hs : ¬ s.size ≤ 1048576) :
    Calls Try.prog 12 #[.agg #[.bool fv.ps, .bool fv.bs, .bool fv.es, .bool fv.dq, .bool fv.bt, .bool fv.hc, .bool fv.sd, .bool fv.nc, .bool fv.ec], .string s, .int .i64 i] w fun e w' => e = .returned (.bool false) ∧ Below w.heap.size w w' := by
  go_enter Try.func12, Try.ntmps12
  go_wp2
  go_ret
  exact ⟨rfl, (Below.refl _ _).alloc (Nat.le_refl _) _⟩

set_option maxHeartbeats 4000000 in
set_option maxRecDepth 100000 in
theorem walkC_in (fv : Sq.Fl) (s : ByteArray) (i : Nat) (m : Int) (w : World) (hs : s.size ≤ 1048576) (hi : i < s.size)
    (hmz : 0 < w.heap.size) (hm : w.cell? ⟨0, 0, none⟩ = some (.int .i64 m))
    (r : Nat) (fw : Bool) (x : UInt8) (t : List UInt8) (y : UInt8) (hn : Bool)
    (hfw : Hid (Sq.fwAt s.data.toList i = fw)) (HT : Hid (s.data.toList.drop i = x :: t)) (hr : Hid (i + Sq.skp fv fw (x :: t) = r)) (hr1 : i ≤ r) (hr2 : r ≤ s.size)
    (Hn : Hid (hn = decide (i + 1 < s.size))) (Hy : Hid ((s.data.toList[i + 1]?).getD 0 = y)) (hx : s[i] = x) :
    Calls Try.prog 5 #[.agg #[.bool fv.ps, .bool fv.bs, .bool fv.es, .bool fv.dq, .bool fv.bt, .bool fv.hc, .bool fv.sd, .bool fv.nc, .bool fv.ec], .string s, .int .i64 i] w fun e w' => e = .returned (.bool true) ∧ Below w.heap.size w w' := by
  have HM : Hid (w.cell? ⟨0, 0, none⟩ = some (.int .i64 m)) := hm
  clear hm
  have HL : Hid (s.data.toList.length = s.size) := (Lib.size_eq s).symm
  go_enter Try.func5, Try.ntmps5
  go_wp2_with fail
  refine (zzBytesC fv _ _ _ hs).mono ?_
  rintro e w1 ⟨rfl, hb1⟩
  obtain ⟨hc1, hf1⟩ := bcell hb1
  have hz1 : w.heap.size < w1.heap.size := by have := hb1.size; simp at this; omega
  have HB1 : Hid (Below w.heap.size w w1) := ((Below.refl _ _).alloc (Nat.le_refl _) _).trans (hb1.mono (by simp))
  have HB1' : Hid (Below _ _ w1) := hb1
  clear hb1
  go_wp2_with fail
  refine (makeSyntax_any fv _).mono ?_
  rintro e w2 ⟨rfl, hb2⟩
  have HB2 : Hid (Below w1.heap.size w1 w2) := hb2
  have hz2 : w1.heap.size ≤ w2.heap.size := hb2.size
  clear hc1 hf1 hb2
  go_wp2_with fail
  have HB3 : Hid (Below w.heap.size w w2) := HB1.out.trans (HB2.out.mono (by omega))
  have hm2 : w2.cell? ⟨0, 0, none⟩ = some (.int .i64 m) := cell0 HB3.out hmz HM.out
  refine (zzSkip_any fv _ _ m _ (by omega) (by omega) (by omega) (by omega) hm2).mono ?_
  rintro e w3 ⟨rfl, hb3⟩
  rw [Int.toNat_natCast, hfw.out, HT.out, hr.out]
  have hz3 : w.heap.size < w3.heap.size := by have := hb3.size; omega
  have HB4 : Hid (Below w.heap.size w w3) := HB3.out.trans (hb3.mono (by omega))
  have HB5 : Below (w.heap.size + 1) w1 w3 := (HB2.out.mono (by omega)).trans (hb3.mono (by omega))
  have qq : ∀ j, w3.cell? ⟨w.heap.size, j, none⟩ = (w.alloc (.cells #[.bool fv.ps, .bool fv.bs, .bool fv.es, .bool fv.dq, .bool fv.bt, .bool fv.hc, .bool fv.sd, .bool fv.nc, .bool fv.ec] 27)).cell? ⟨w.heap.size, j, none⟩ := fun j => by
    rw [HB5.cell (p := ⟨w.heap.size, j, none⟩) (by show w.heap.size < w.heap.size + 1; omega)]
    exact HB1'.out.cell (p := ⟨w.heap.size, j, none⟩) (by simp)
  have q2 := qq 2
  have q3 := qq 3
  have q4 := qq 4
  have q5 := qq 5
  have q6 := qq 6
  have q7 := qq 7
  have q8 := qq 8
  simp at q2 q3 q4 q5 q6 q7 q8
  clear qq HB5 HB1' HB3 hm2 hb3 HB1 HB2
  go_upto_region 11 with fail
  go_cut [9] (fun v wc => v = .bool hn ∧ w3 = wc)
  case first =>
    by_cases hlt : i + 1 < s.size
    · go_wp2
      go_meet
      case rel => exact ⟨by rw [Hn.out]; simp; omega, rfl⟩
    · go_wp2
      go_meet
      case rel => exact ⟨by rw [Hn.out]; simp; omega, rfl⟩
  case rest =>
    obtain ⟨rfl, rfl⟩ := hcut
    go_upto_if 50 with fail
    go_cut [10] (fun v wc => v = .int .u8 y.toNat ∧ w3 = wc)
    case first =>
      cases hn with
      | true =>
        have hlt : i + 1 < s.size := of_decide_eq_true Hn.out.symm
        have hy : s[i + 1] = y := by
          have h := Hy.out
          rw [Lib.data_getElem? s (i + 1) hlt] at h
          exact h
        as_aux_lemma =>
          go_wp2
          go_meet
          case rel => exact ⟨rfl, rfl⟩
      | false =>
        have hlt : ¬ i + 1 < s.size := of_decide_eq_false Hn.out.symm
        have hy : y = 0 := by
          have h := Hy.out
          rw [List.getElem?_eq_none (by rw [HL.out]; omega)] at h
          exact h.symm
        subst hy
        as_aux_lemma =>
          go_wp2
          go_meet
          case rel => exact ⟨rfl, rfl⟩
    case rest =>
      obtain ⟨rfl, rfl⟩ := hcut
      go_upto_region 15 with fail
      go_cut [11] (fun v wc => v = .bool fw ∧ w3 = wc)
      case first =>
        by_cases hi0 : i = 0
        · have hi0' : ¬ ((0 : Int) < (i : Int)) := by omega
          have HF : Hid (fw = false) := by rw [Hid, ← hfw.out, hi0]; rfl
          clear hi0
          as_aux_lemma =>
            go_wp2
            go_meet
            case rel => exact ⟨by rw [HF.out], rfl⟩
        · have hi0' : (0 : Int) < (i : Int) := by omega
          obtain ⟨k, hk⟩ : ∃ k, i = k + 1 := ⟨i - 1, by omega⟩
          have hks : k < s.size := by omega
          have hidx : ∀ wx, (Instr.index 9 (.string s) (.int .i64 ((i : Int) - 1))).run Try.prog wx = .ok (.int .u8 (s[k]'hks).toNat) wx := fun wx => by
            have e := run_index_string (P := Try.prog) (w := wx) 9 s .i64 ((i : Int) - 1) Try.underlying9
            rw [dif_pos (by omega)] at e
            rw [e]
            simp only [show ((i : Int) - 1).toNat = k from by omega]
          have HF : Hid (Sq.isWord (s[k]'hks) = fw) := by
            have h := hfw.out
            rw [hk, Sq.fwAt, Lib.data_getElem? s k hks] at h
            exact h
          clear hi0 hk
          generalize s[k]'hks = z at *
          as_aux_lemma =>
            go_wp2_with (go_at_call 15; refine (isWordByte_any z _).mono ?_; rintro e w4 ⟨rfl, rfl⟩; rw [HF.out])
            go_meet
            case rel => exact ⟨rfl, rfl⟩
      case rest =>
        obtain ⟨rfl, rfl⟩ := hcut
        have Hx0 : Hid (i + Sq.skp fv fw (x :: t) = r) := hr
        have B39 : Hid (((x.toNat : Int) == 39) = (x == 39)) := Sq.byte_beq x 39
        have B34 : Hid (((x.toNat : Int) == 34) = (x == 34)) := Sq.byte_beq x 34
        have B96 : Hid (((x.toNat : Int) == 96) = (x == 96)) := Sq.byte_beq x 96
        have B35 : Hid (((x.toNat : Int) == 35) = (x == 35)) := Sq.byte_beq x 35
        have B45 : Hid (((x.toNat : Int) == 45) = (x == 45)) := Sq.byte_beq x 45
        have B47 : Hid (((x.toNat : Int) == 47) = (x == 47)) := Sq.byte_beq x 47
        have B69 : Hid (((x.toNat : Int) == 69) = (x == 69)) := Sq.byte_beq x 69
        have B101 : Hid (((x.toNat : Int) == 101) = (x == 101)) := Sq.byte_beq x 101
        have B36 : Hid (((x.toNat : Int) == 36) = (x == 36)) := Sq.byte_beq x 36
        have hrr : ((r : Int) == (r : Int)) = true := beq_iff_eq.2 rfl
        clear hr hx hz1 hz2 hmz
        cases e39 : ((x.toNat : Int) == 39) with
        | true =>
          have hlt : i < r := by have := Sq.tab_Q (f := fv) (fw := fw) (t := t) (x := x) (by rw [← B39.out, e39]; rfl); have := Hx0.out; omega
          as_aux_lemma =>
            go_wp2
            go_ret
            exact ⟨ret_bool (by first | rfl | (simp; omega)), HB4.out⟩
        | false =>
          cases e34 : ((x.toNat : Int) == 34) with
          | true =>
            have hlt : i < r := by have := Sq.tab_Q (f := fv) (fw := fw) (t := t) (x := x) (by rw [← B34.out, e34]; simp); have := Hx0.out; omega
            as_aux_lemma =>
              go_wp2
              go_ret
              exact ⟨ret_bool (by first | rfl | (simp; omega)), HB4.out⟩
          | false =>
            cases e96 : ((x.toNat : Int) == 96) with
            | true =>
              have hx96 : x = 96 := Sq.of_beq x 96 (by rw [← B96.out]; exact e96)
              have hT := Hx0.out
              rw [hx96, Sq.tab_96] at hT
              cases hbt : fv.bt with
              | true =>
                have hlt : i < r := by rw [hbt, if_pos rfl] at hT; omega
                clear hT hx96
                as_aux_lemma =>
                  go_wp2
                  go_ret
                  exact ⟨ret_bool (by first | rfl | (simp; omega)), HB4.out⟩
              | false =>
                have hlt : r ≤ i := by rw [hbt, if_neg (by simp)] at hT; omega
                clear hT hx96
                as_aux_lemma =>
                  go_wp2
                  go_ret
                  exact ⟨ret_bool (by first | rfl | (simp; omega)), HB4.out⟩
            | false =>
              cases e35 : ((x.toNat : Int) == 35) with
              | true =>
                have hx35 : x = 35 := Sq.of_beq x 35 (by rw [← B35.out]; exact e35)
                have hT := Hx0.out
                rw [hx35, Sq.tab_35] at hT
                cases hhc : fv.hc with
                | true =>
                  have HV : Hid (Sq.lineAt s.data.toList i = r) := by rw [hhc, if_pos rfl] at hT; rw [Hid, Sq.lineAt, HT.out, hx35]; exact hT
                  clear hT hx35
                  as_aux_lemma =>
                    go_wp2_with (go_at_call 16; refine (firstLineFeed_any _ _ _ (by omega) (by omega)).mono ?_; rintro e w4 ⟨rfl, rfl⟩; rw [HV.out])
                    go_ret
                    exact ⟨ret_bool (by first | rfl | (simp; omega)), HB4.out⟩
                | false =>
                  have hri : ((r : Int) == (i : Int)) = true := by rw [hhc, if_neg (by simp)] at hT; exact beq_iff_eq.2 (by omega)
                  clear hT hx35
                  as_aux_lemma =>
                    go_wp2
                    go_ret
                    exact ⟨ret_bool (by first | rfl | (simp; omega)), HB4.out⟩
              | false =>
                have B45y : Hid (((y.toNat : Int) != 45) = (y != 45)) := Sq.byte_bne y 45
                have B42y : Hid (((y.toNat : Int) != 42) = (y != 42)) := Sq.byte_bne y 42
                have B39y : Hid (((y.toNat : Int) == 39) = (y == 39)) := Sq.byte_beq y 39
                have hTn : Hid (hn = false → t = []) := Sq.tail_nil HT.out HL.out Hn.out
                have hTy : Hid (hn = true → ∃ u, t = y :: u ∧ u.length = s.size - (i + 2) ∧ s.data.toList.drop (i + 2) = u ∧ i + 2 ≤ s.size) := Sq.tail_cons HT.out HL.out Hn.out Hy.out
                cases e45 : ((x.toNat : Int) == 45) with
                | true =>
                  have hx45 : x = 45 := Sq.of_beq x 45 (by rw [← B45.out]; exact e45)
                  have hT := Hx0.out
                  rw [hx45, Sq.tab_45] at hT
                  cases hn with
                  | false =>
                    have hri : ((r : Int) == (i : Int)) = true := by
                      rw [hTn.out rfl] at hT
                      simp [Sq.cL, Sq.pre_cons, Lib.hasPrefix] at hT
                      exact beq_iff_eq.2 (by omega)
                    clear hT hx45
                    as_aux_lemma =>
                      go_wp2
                      go_ret
                      exact ⟨ret_bool (by first | rfl | (simp; omega)), HB4.out⟩
                  | true =>
                    obtain ⟨u, hu, hul, hud, hus⟩ := hTy.out rfl
                    rw [hu] at hT
                    cases e45y : ((y.toNat : Int) != 45) with
                    | true =>
                      have hri : ((r : Int) == (i : Int)) = true := by
                        have hne : (45 == y) = false := Sq.ne_of_bne (by rw [← B45y.out]; exact e45y)
                        simp [Sq.cL, Sq.pre_cons, hne] at hT
                        exact beq_iff_eq.2 (by omega)
                      clear hT hx45 hu hul hud
                      as_aux_lemma =>
                        go_wp2
                        go_ret
                        exact ⟨ret_bool (by first | rfl | (simp; omega)), HB4.out⟩
                    | false =>
                      have hy45 : y = 45 := Sq.eq_of_bne (by rw [← B45y.out]; exact e45y)
                      have hcl : Sq.cL fv (45 :: y :: u) = (!fv.sd || u.length == 0 || decide ((u.headD 0).toNat ≤ 32)) := by rw [hy45]; exact Sq.cL_two fv u
                      have hlv : ∀ h : Sq.cL fv (45 :: y :: u) = true, Hid (Sq.lineAt s.data.toList i = r) := fun h => by rw [h, if_pos rfl] at hT; rw [Hid, Sq.lineAt, HT.out, hx45, hu]; exact hT
                      cases hsd : fv.sd with
                      | false =>
                        have HV := hlv (by rw [hcl, hsd]; rfl)
                        clear hT hx45 hy45 hu hul hud hcl hlv
                        as_aux_lemma =>
                          go_wp2_with (go_at_call 16; refine (firstLineFeed_any _ _ _ (by omega) (by omega)).mono ?_; rintro e w4 ⟨rfl, rfl⟩; rw [HV.out])
                          go_ret
                          exact ⟨ret_bool (by first | rfl | (simp; omega)), HB4.out⟩
                      | true =>
                        by_cases h2 : i + 2 < s.size
                        · have hux : u.headD 0 = s[i + 2] := by
                            rw [← hud, List.headD_eq_head?_getD, List.head?_drop, Lib.data_getElem? s (i + 2) h2]; rfl
                          obtain ⟨z, hz⟩ : ∃ z, s[i + 2] = z := ⟨_, rfl⟩
                          rw [hux, hz, hsd, show (u.length == 0) = false from beq_eq_false_iff_ne.2 (by omega)] at hcl
                          by_cases hz32 : z.toNat ≤ 32
                          · have HV := hlv (by rw [hcl]; simp [hz32])
                            clear hT hx45 hy45 hu hul hud hcl hlv hux
                            as_aux_lemma =>
                              go_wp2_with (go_at_call 16; refine (firstLineFeed_any _ _ _ (by omega) (by omega)).mono ?_; rintro e w4 ⟨rfl, rfl⟩; rw [HV.out])
                              go_ret
                              exact ⟨ret_bool (by first | rfl | (simp; omega)), HB4.out⟩
                          · have hri : ((r : Int) == (i : Int)) = true := by
                                rw [hcl] at hT
                                simp [hz32] at hT
                                exact beq_iff_eq.2 (by omega)
                            clear hT hx45 hy45 hu hul hud hcl hlv hux
                            as_aux_lemma =>
                              go_wp2
                              go_ret
                              exact ⟨ret_bool (by first | rfl | (simp; omega)), HB4.out⟩
                        · have HV := hlv (by rw [hcl, show (u.length == 0) = true from beq_iff_eq.2 (by omega)]; simp)
                          clear hT hx45 hy45 hu hul hud hcl hlv
                          as_aux_lemma =>
                            go_wp2_with (go_at_call 16; refine (firstLineFeed_any _ _ _ (by omega) (by omega)).mono ?_; rintro e w4 ⟨rfl, rfl⟩; rw [HV.out])
                            go_ret
                            exact ⟨ret_bool (by first | rfl | (simp; omega)), HB4.out⟩
                | false =>
                  cases e47 : ((x.toNat : Int) == 47) with
                  | true =>
                    have hx47 : x = 47 := Sq.of_beq x 47 (by rw [← B47.out]; exact e47)
                    have hT := Hx0.out
                    rw [hx47, Sq.tab_47] at hT
                    cases hn with
                    | false =>
                      have hri : ((r : Int) == (i : Int)) = true := by
                        rw [hTn.out rfl] at hT
                        simp [Sq.cX, Sq.pre_cons, Lib.hasPrefix] at hT
                        exact beq_iff_eq.2 (by omega)
                      clear hT hx47
                      as_aux_lemma =>
                        go_wp2
                        go_ret
                        exact ⟨ret_bool (by first | rfl | (simp; omega)), HB4.out⟩
                    | true =>
                      obtain ⟨u, hu, hul, hud, hus⟩ := hTy.out rfl
                      rw [hu] at hT
                      cases e42y : ((y.toNat : Int) != 42) with
                      | true =>
                        have hri : ((r : Int) == (i : Int)) = true := by
                          have hne : (42 == y) = false := Sq.ne_of_bne (by rw [← B42y.out]; exact e42y)
                          simp [Sq.cX, Sq.pre_cons, hne] at hT
                          exact beq_iff_eq.2 (by omega)
                        clear hT hx47 hu hul hud
                        as_aux_lemma =>
                          go_wp2
                          go_ret
                          exact ⟨ret_bool (by first | rfl | (simp; omega)), HB4.out⟩
                      | false =>
                        have hy42 : y = 42 := Sq.eq_of_bne (by rw [← B42y.out]; exact e42y)
                        obtain ⟨p4, hp4⟩ : ∃ b, Lib.hasPrefix (x :: t) [47, 42, 33] = b := ⟨_, rfl⟩
                        obtain ⟨p5, hp5⟩ : ∃ b, Lib.hasPrefix (x :: t) [47, 42, 77, 33] = b := ⟨_, rfl⟩
                        have HP4 : Hid (Lib.hasPrefix (x :: t) (⟨#[47, 42, 33]⟩ : ByteArray).data.toList = p4) := hp4
                        have HP5 : Hid (Lib.hasPrefix (x :: t) (⟨#[47, 42, 77, 33]⟩ : ByteArray).data.toList = p5) := hp5
                        have hcx : Sq.cX fv (47 :: y :: u) = (fv.ec && (p4 || p5)) := by rw [← hp4, ← hp5, hx47, hu]; rfl
                        have hyes : Sq.cX fv (47 :: y :: u) = true → i + 3 ≤ r := fun h => by have h3 := Sq.runX h; rw [h, if_pos rfl] at hT; omega
                        have hno : Sq.cX fv (47 :: y :: u) = false → Hid (Sq.comAt s.data.toList fv.nc 1 (i + 2) = r) := fun h => by
                          rw [h, if_neg (by simp), hy42, if_pos (by simp [Sq.pre_cons, Lib.hasPrefix]), List.drop_succ_cons, List.drop_zero] at hT
                          rw [Hid, Sq.comAt, hud]; omega
                        cases hec : fv.ec with
                        | false =>
                          have hnc := hno (by rw [hcx, hec]; rfl)
                          clear hT hx47 hy42 hp4 hp5 hcx hyes hno hu hul
                          cases hncv : fv.nc with
                          | false =>
                            rw [hncv] at hnc
                            have HV := hnc
                            clear hnc hud
                            as_aux_lemma =>
                              go_wp2_with (first | (go_at_call 17; refine (hasPrefixAt_any _ _ _ _ (by omega) (by omega) (by decide) (by decide)).mono ?_; rintro e w4 ⟨rfl, n4, rfl⟩; rw [HT.out]; first | rw [HP4.out] | rw [HP5.out]) | (go_at_call 18; refine (firstCommentClose_any _ _ _ (by omega) (by omega) (by omega)).mono ?_; rintro e w4 ⟨rfl, rfl⟩; rw [show ((i : Int) + 2).toNat = i + 2 from by omega, HV.out]))
                              go_ret
                              exact ⟨ret_bool (by first | rfl | (simp; omega)), by first | exact HB4.out | exact below_drewN HB4.out _ | exact below_drewN (below_drewN HB4.out _) _⟩
                          | true =>
                            obtain ⟨cq, hcq⟩ : ∃ c, Sq.comAt s.data.toList false 1 (i + 2) = c := ⟨_, rfl⟩
                            have hcle : cq ≤ r := by
                              have h1 := Sq.com_flat_le (s.data.toList.drop (i + 2)) 1
                              have h2 := hnc.out
                              rw [hncv] at h2
                              rw [← hcq, ← h2]; unfold Sq.comAt; omega
                            have HV : Hid (Sq.comAt s.data.toList false 1 (i + 2) = cq) := hcq
                            clear hnc hud hcq
                            as_aux_lemma =>
                              go_wp2_with (first | (go_at_call 17; refine (hasPrefixAt_any _ _ _ _ (by omega) (by omega) (by decide) (by decide)).mono ?_; rintro e w4 ⟨rfl, n4, rfl⟩; rw [HT.out]; first | rw [HP4.out] | rw [HP5.out]) | (go_at_call 18; refine (firstCommentClose_any _ _ _ (by omega) (by omega) (by omega)).mono ?_; rintro e w4 ⟨rfl, rfl⟩; rw [show ((i : Int) + 2).toNat = i + 2 from by omega, HV.out]))
                              go_ret
                              exact ⟨ret_bool (by first | rfl | (simp; omega)), by first | exact HB4.out | exact below_drewN HB4.out _ | exact below_drewN (below_drewN HB4.out _) _⟩
                        | true =>
                          cases p4 with
                          | true =>
                            have hge := hyes (by rw [hcx, hec]; rfl)
                            clear hT hx47 hy42 hp4 hp5 hcx hyes hno hu hul hud
                            as_aux_lemma =>
                              go_wp2_with (go_at_call 17; refine (hasPrefixAt_any _ _ _ _ (by omega) (by omega) (by decide) (by decide)).mono ?_; rintro e w4 ⟨rfl, n4, rfl⟩; rw [HT.out]; first | rw [HP4.out] | rw [HP5.out])
                              go_ret
                              exact ⟨ret_bool (by first | rfl | (simp; omega)), by first | exact HB4.out | exact below_drewN HB4.out _ | exact below_drewN (below_drewN HB4.out _) _⟩
                          | false =>
                            cases p5 with
                            | true =>
                              have hge := hyes (by rw [hcx, hec]; rfl)
                              clear hT hx47 hy42 hp4 hp5 hcx hyes hno hu hul hud
                              as_aux_lemma =>
                                go_wp2_with (go_at_call 17; refine (hasPrefixAt_any _ _ _ _ (by omega) (by omega) (by decide) (by decide)).mono ?_; rintro e w4 ⟨rfl, n4, rfl⟩; rw [HT.out]; first | rw [HP4.out] | rw [HP5.out])
                                go_ret
                                exact ⟨ret_bool (by first | rfl | (simp; omega)), by first | exact HB4.out | exact below_drewN HB4.out _ | exact below_drewN (below_drewN HB4.out _) _⟩
                            | false =>
                              have hnc := hno (by rw [hcx, hec]; rfl)
                              clear hT hx47 hy42 hp4 hp5 hcx hyes hno hu hul
                              cases hncv : fv.nc with
                              | false =>
                                rw [hncv] at hnc
                                have HV := hnc
                                clear hnc hud
                                as_aux_lemma =>
                                  go_wp2_with (first | (go_at_call 17; refine (hasPrefixAt_any _ _ _ _ (by omega) (by omega) (by decide) (by decide)).mono ?_; rintro e w4 ⟨rfl, n4, rfl⟩; rw [HT.out]; first | rw [HP4.out] | rw [HP5.out]) | (go_at_call 18; refine (firstCommentClose_any _ _ _ (by omega) (by omega) (by omega)).mono ?_; rintro e w4 ⟨rfl, rfl⟩; rw [show ((i : Int) + 2).toNat = i + 2 from by omega, HV.out]))
                                  go_ret
                                  exact ⟨ret_bool (by first | rfl | (simp; omega)), by first | exact HB4.out | exact below_drewN HB4.out _ | exact below_drewN (below_drewN HB4.out _) _⟩
                              | true =>
                                obtain ⟨cq, hcq⟩ : ∃ c, Sq.comAt s.data.toList false 1 (i + 2) = c := ⟨_, rfl⟩
                                have hcle : cq ≤ r := by
                                  have h1 := Sq.com_flat_le (s.data.toList.drop (i + 2)) 1
                                  have h2 := hnc.out
                                  rw [hncv] at h2
                                  rw [← hcq, ← h2]; unfold Sq.comAt; omega
                                have HV : Hid (Sq.comAt s.data.toList false 1 (i + 2) = cq) := hcq
                                clear hnc hud hcq
                                as_aux_lemma =>
                                  go_wp2_with (first | (go_at_call 17; refine (hasPrefixAt_any _ _ _ _ (by omega) (by omega) (by decide) (by decide)).mono ?_; rintro e w4 ⟨rfl, n4, rfl⟩; rw [HT.out]; first | rw [HP4.out] | rw [HP5.out]) | (go_at_call 18; refine (firstCommentClose_any _ _ _ (by omega) (by omega) (by omega)).mono ?_; rintro e w4 ⟨rfl, rfl⟩; rw [show ((i : Int) + 2).toNat = i + 2 from by omega, HV.out]))
                                  go_ret
                                  exact ⟨ret_bool (by first | rfl | (simp; omega)), by first | exact HB4.out | exact below_drewN HB4.out _ | exact below_drewN (below_drewN HB4.out _) _⟩
                  | false =>
                    cases e69 : ((x.toNat : Int) == 69) with
                    | true =>
                      have hT := Hx0.out
                      rw [Sq.tab_E (.inl (Sq.of_beq x 69 (by rw [← B69.out]; exact e69)))] at hT
                      cases hes : fv.es with
                      | false =>
                        have hri : ((r : Int) == (i : Int)) = true := by
                          rw [hes] at hT
                          simp at hT
                          exact beq_iff_eq.2 (by omega)
                        clear hT
                        as_aux_lemma =>
                          go_wp2
                          go_ret
                          exact ⟨ret_bool (by first | rfl | (simp; omega)), HB4.out⟩
                      | true =>
                        cases hn with
                        | false =>
                          have hri : ((r : Int) == (i : Int)) = true := by
                            rw [hTn.out rfl, show Lib.hasPrefix [] [39] = false from rfl, Bool.and_false, Bool.false_and] at hT
                            simp at hT
                            exact beq_iff_eq.2 (by omega)
                          clear hT
                          as_aux_lemma =>
                            go_wp2
                            go_ret
                            exact ⟨ret_bool (by first | rfl | (simp; omega)), HB4.out⟩
                        | true =>
                          obtain ⟨u, hu, hul, hud, hus⟩ := hTy.out rfl
                          clear hul hud hus
                          cases e39y : ((y.toNat : Int) == 39) with
                          | false =>
                            have hpf : Lib.hasPrefix t [39] = false := by
                              have h := B39y.out
                              rw [e39y] at h
                              have : (39 == y) = false := beq_eq_false_iff_ne.2 fun e => by rw [← e] at h; exact absurd h (by decide)
                              rw [hu, Sq.pre_cons, this]; rfl
                            clear hu
                            have hri : ((r : Int) == (i : Int)) = true := by
                              rw [hpf, Bool.and_false, Bool.false_and] at hT
                              simp at hT
                              exact beq_iff_eq.2 (by omega)
                            clear hT hpf
                            as_aux_lemma =>
                              go_wp2
                              go_ret
                              exact ⟨ret_bool (by first | rfl | (simp; omega)), HB4.out⟩
                          | true =>
                            have hpf : Lib.hasPrefix t [39] = true := by
                              have h := B39y.out
                              rw [e39y] at h
                              have : y = 39 := Sq.of_beq y 39 h.symm
                              rw [hu, this]; simp [Sq.pre_cons, Lib.hasPrefix]
                            rw [hpf, hes] at hT
                            clear hu hpf
                            cases fw with
                            | true =>
                              have hri : ((r : Int) == (i : Int)) = true := by
                                skip
                                simp at hT
                                exact beq_iff_eq.2 (by omega)
                              clear hT
                              as_aux_lemma =>
                                go_wp2
                                go_ret
                                exact ⟨ret_bool (by first | rfl | (simp; omega)), HB4.out⟩
                            | false =>
                              have hge : i + 2 ≤ r := by simp at hT; omega
                              clear hT
                              as_aux_lemma =>
                                go_wp2
                                go_ret
                                exact ⟨ret_bool (by first | rfl | (simp; omega)), HB4.out⟩
                    | false =>
                      cases e101 : ((x.toNat : Int) == 101) with
                      | true =>
                        have hT := Hx0.out
                        rw [Sq.tab_E (.inr (Sq.of_beq x 101 (by rw [← B101.out]; exact e101)))] at hT
                        cases hes : fv.es with
                        | false =>
                          have hri : ((r : Int) == (i : Int)) = true := by
                            rw [hes] at hT
                            simp at hT
                            exact beq_iff_eq.2 (by omega)
                          clear hT
                          as_aux_lemma =>
                            go_wp2
                            go_ret
                            exact ⟨ret_bool (by first | rfl | (simp; omega)), HB4.out⟩
                        | true =>
                          cases hn with
                          | false =>
                            have hri : ((r : Int) == (i : Int)) = true := by
                              rw [hTn.out rfl, show Lib.hasPrefix [] [39] = false from rfl, Bool.and_false, Bool.false_and] at hT
                              simp at hT
                              exact beq_iff_eq.2 (by omega)
                            clear hT
                            as_aux_lemma =>
                              go_wp2
                              go_ret
                              exact ⟨ret_bool (by first | rfl | (simp; omega)), HB4.out⟩
                          | true =>
                            obtain ⟨u, hu, hul, hud, hus⟩ := hTy.out rfl
                            clear hul hud hus
                            cases e39y : ((y.toNat : Int) == 39) with
                            | false =>
                              have hpf : Lib.hasPrefix t [39] = false := by
                                have h := B39y.out
                                rw [e39y] at h
                                have : (39 == y) = false := beq_eq_false_iff_ne.2 fun e => by rw [← e] at h; exact absurd h (by decide)
                                rw [hu, Sq.pre_cons, this]; rfl
                              clear hu
                              have hri : ((r : Int) == (i : Int)) = true := by
                                rw [hpf, Bool.and_false, Bool.false_and] at hT
                                simp at hT
                                exact beq_iff_eq.2 (by omega)
                              clear hT hpf
                              as_aux_lemma =>
                                go_wp2
                                go_ret
                                exact ⟨ret_bool (by first | rfl | (simp; omega)), HB4.out⟩
                            | true =>
                              have hpf : Lib.hasPrefix t [39] = true := by
                                have h := B39y.out
                                rw [e39y] at h
                                have : y = 39 := Sq.of_beq y 39 h.symm
                                rw [hu, this]; simp [Sq.pre_cons, Lib.hasPrefix]
                              rw [hpf, hes] at hT
                              clear hu hpf
                              cases fw with
                              | true =>
                                have hri : ((r : Int) == (i : Int)) = true := by
                                  skip
                                  simp at hT
                                  exact beq_iff_eq.2 (by omega)
                                clear hT
                                as_aux_lemma =>
                                  go_wp2
                                  go_ret
                                  exact ⟨ret_bool (by first | rfl | (simp; omega)), HB4.out⟩
                              | false =>
                                have hge : i + 2 ≤ r := by simp at hT; omega
                                clear hT
                                as_aux_lemma =>
                                  go_wp2
                                  go_ret
                                  exact ⟨ret_bool (by first | rfl | (simp; omega)), HB4.out⟩
                      | false =>
                        cases e36 : ((x.toNat : Int) == 36) with
                        | true =>
                          have hT := Hx0.out
                          rw [Sq.of_beq x 36 (by rw [← B36.out]; exact e36), Sq.tab_36] at hT
                          cases hdq : fv.dq with
                          | false =>
                            have hri : ((r : Int) == (i : Int)) = true := by
                              rw [hdq] at hT
                              simp at hT
                              exact beq_iff_eq.2 (by omega)
                            clear hT
                            as_aux_lemma =>
                              go_wp2
                              go_ret
                              exact ⟨ret_bool (by first | rfl | (simp; omega)), HB4.out⟩
                          | true =>
                            cases fw with
                            | true =>
                              have hri : ((r : Int) == (i : Int)) = true := by
                                rw [hdq] at hT
                                simp at hT
                                exact beq_iff_eq.2 (by omega)
                              clear hT
                              as_aux_lemma =>
                                go_wp2
                                go_ret
                                exact ⟨ret_bool (by first | rfl | (simp; omega)), HB4.out⟩
                            | false =>
                              rw [hdq] at hT
                              simp at hT
                              rcases Sq.dol_two (36 :: t) with hd | hd
                              · have hri : ((r : Int) == (i : Int)) = true := by rw [hd] at hT; exact beq_iff_eq.2 (by omega)
                                clear hT hd
                                as_aux_lemma =>
                                  go_wp2
                                  go_ret
                                  exact ⟨ret_bool (by first | rfl | (simp; omega)), HB4.out⟩
                              · have hri : ((r : Int) == (i : Int)) = false := beq_eq_false_iff_ne.2 (by omega)
                                have hge : i + 2 ≤ r := by omega
                                clear hT hd
                                as_aux_lemma =>
                                  go_wp2
                                  go_ret
                                  exact ⟨ret_bool (by first | rfl | (simp; omega)), HB4.out⟩
                        | false =>
                          have hri : ((r : Int) == (i : Int)) = true := by
                            have hT := Hx0.out
                            rw [Sq.tab_0 (by rw [← B39.out]; exact e39) (by rw [← B34.out]; exact e34) (by rw [← B96.out]; exact e96) (by rw [← B35.out]; exact e35) (by rw [← B45.out]; exact e45) (by rw [← B47.out]; exact e47) (by rw [← B69.out]; exact e69) (by rw [← B101.out]; exact e101) (by rw [← B36.out]; exact e36)] at hT
                            exact beq_iff_eq.2 (by omega)
                          as_aux_lemma =>
                            go_wp2
                            go_ret
                            exact ⟨ret_bool (by first | rfl | (simp; omega)), HB4.out⟩
end Go.Proofs.Qxb6603812a
