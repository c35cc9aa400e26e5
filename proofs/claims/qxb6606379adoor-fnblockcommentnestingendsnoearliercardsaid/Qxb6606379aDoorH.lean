import Derived.Test.Qxb6606379aDoorG
namespace Go.Proofs.Qxb6606379aDoor
open Go.RowKit

def LawPost (w : World) (e : Ending) (w' : World) : Prop := e = .returned (.bool true) ∧ Below w.heap.size w w'

set_option maxHeartbeats 2000000 in
set_option maxRecDepth 100000 in
theorem law_any (a : Int) (L : Nat) (esc : ByteArray) (c : Int) (d : Bool) (f : Int) (g : Bool) (s : ByteArray) (m : Int) (w : World) (hL : L < 65536) (hm : w.cell? ⟨0, 0, none⟩ = some (.int .i64 m)) :
    Calls Tryd.prog 3 #[.int .i32 a, .int .u16 L, .string esc, .int .u8 c, .bool d, .int .i64 f, .bool g, .string s] w fun e w' => LawPost w e w' := by
  have h0w : 0 < w.heap.size := World.block_lt_of_cell? w ⟨0, 0, none⟩ hm
  have HL : Hid (s.data.toList.length = s.size) := (Lib.size_eq s).symm
  have hbn : bits .andNot .u16 (L : Int) 256 = ((L &&& (65535 - 256) : Nat) : Int) := u16_andNot_nat L 256 hL (by decide)
  have hbo : bits .or .u16 (L : Int) 256 = ((L ||| 256 : Nat) : Int) := u16_or_nat L 256 hL (by decide)
  have hba : bits .and .u16 (L : Int) 512 = ((L &&& 512 : Nat) : Int) := u16_and_nat L 512 hL (by decide)
  have hLf : L &&& (65535 - 256) < 65536 := Nat.lt_of_le_of_lt Nat.and_le_left hL
  have hLn : L ||| 256 < 65536 := Nat.or_lt_two_pow (n := 16) hL (by decide)
  obtain ⟨Lf, hf⟩ : ∃ Lf, L &&& (65535 - 256) = Lf := ⟨_, rfl⟩
  obtain ⟨Ln, hn⟩ : ∃ Ln, L ||| 256 = Ln := ⟨_, rfl⟩
  obtain ⟨La, ha⟩ : ∃ La, L &&& 512 = La := ⟨_, rfl⟩
  rw [hf] at hbn hLf
  rw [hn] at hbo hLn
  rw [ha] at hba
  have HF : Hid (L &&& (65535 - 256) = Lf) := hf
  have HN : Hid (L ||| 256 = Ln) := hn
  have HA : Hid (L &&& 512 = La) := ha
  clear hf hn ha
  go_enter Tryd.func3, Tryd.ntmps3
  go_wp2_with fail
  refine (bytes_any _ _ _ _ _ _ esc s _).mono ?_
  rintro e w1 ⟨r, rfl, rfl⟩
  cases r with
  | false =>
    go_wp2
    go_ret
    exact ⟨rfl, Below.refl _ _⟩
  | true =>
    by_cases c1 : esc.size ≤ 524288
    case neg =>
      go_wp2
      go_ret
      exact ⟨rfl, Below.refl _ _⟩
    by_cases c2 : s.size ≤ 524288
    case neg =>
      go_wp2
      go_ret
      exact ⟨rfl, Below.refl _ _⟩
    go_wp2_with fail
    refine (opens_any s _).mono ?_
    rintro e w2 ⟨r, rfl, rfl, hr⟩
    cases r with
    | false =>
      go_wp2
      go_ret
      exact ⟨rfl, Below.refl _ _⟩
    | true =>
      have H0 : Hid (s.data.toList[0]? = some 47) := (hr rfl).1
      have H1 : Hid (s.data.toList[1]? = some 42) := (hr rfl).2
      have h2 : 2 ≤ s.size := by have := (List.getElem?_eq_some_iff.1 H1.out).1; rw [HL.out] at this; omega
      clear hr
      go_wp2_with fail
      refine (zzBlock_any s Lf a esc c d f g m _ hLf (by omega) h2 hm).mono ?_
      rintro e w3 ⟨p, rfl, B3, hp⟩
      have hm3 : w3.cell? ⟨0, 0, none⟩ = some (.int .i64 m) := (B3.cell (p := ⟨0, 0, none⟩) h0w).trans hm
      go_wp2_with fail
      refine (zzBlock_any s Ln a esc c d f g m _ hLn (by omega) h2 hm3).mono ?_
      rintro e w4 ⟨q, rfl, B4, hq⟩
      have HB : Hid (Below w2.heap.size w2 w4) := B3.trans (B4.mono B3.size)
      have HPQ := Bc.pq L s.data.toList p q (by rw [HF.out]; exact hp) (by rw [HN.out]; exact hq)
      rw [HA.out] at HPQ
      obtain ⟨⟨k1, k2, k3⟩, k4⟩ := HPQ
      rw [HL.out] at k1 k2
      have K3 : Hid (Bc.noInner s.data.toList → p = q) := k3
      have K4 : Hid ((La == 0) = false → Bc.vb s.data.toList ≠ none → p = q) := k4
      clear k3 k4 hp hq B3 B4 hm3 hm hbn hbo hLf hLn
      by_cases hpq : p = q
      · subst hpq
        clear K3 K4 k2
        rcases k1 with rfl | ⟨k5, k6⟩
        · go_wp2_with fail
          refine (inner_any s _ (by omega) h2).mono ?_
          rintro e w5 ⟨r, rfl, rfl, hr⟩
          cases r with
          | false =>
            clear hr
            cases hz : (La == 0) with
            | true =>
              have hz2 : ((La : Int) != 0) = false := by have := beq_iff_eq.1 hz; subst this; rfl
              go_wp2
              go_ret
              exact ⟨rfl, HB.out⟩
            | false =>
              have hz2 : ((La : Int) != 0) = true := by rw [bne_iff_ne]; have := beq_eq_false_iff_ne.1 hz; omega
              go_wp2_with fail
              refine (vbody_any s _ (by omega) H0.out H1.out).mono ?_
              rintro e w6 ⟨rfl, rfl⟩
              obtain ⟨v, hv⟩ : ∃ v, Bc.vbI s.data.toList = v := ⟨_, rfl⟩
              rw [hv]
              clear hv
              by_cases hv0 : 0 ≤ v
              · go_wp2
                go_ret
                exact ⟨rfl, HB.out⟩
              · go_wp2
                go_ret
                exact ⟨rfl, HB.out⟩
          | true =>
            clear hr
            cases hz : (La == 0) with
            | true =>
              have hz2 : ((La : Int) != 0) = false := by have := beq_iff_eq.1 hz; subst this; rfl
              go_wp2
              go_ret
              exact ⟨rfl, HB.out⟩
            | false =>
              have hz2 : ((La : Int) != 0) = true := by rw [bne_iff_ne]; have := beq_eq_false_iff_ne.1 hz; omega
              go_wp2_with fail
              refine (vbody_any s _ (by omega) H0.out H1.out).mono ?_
              rintro e w6 ⟨rfl, rfl⟩
              obtain ⟨v, hv⟩ : ∃ v, Bc.vbI s.data.toList = v := ⟨_, rfl⟩
              rw [hv]
              clear hv
              by_cases hv0 : 0 ≤ v
              · go_wp2
                go_ret
                exact ⟨rfl, HB.out⟩
              · go_wp2
                go_ret
                exact ⟨rfl, HB.out⟩
        · have t1 : (p != -1) = true := by rw [bne_iff_ne]; omega
          have t2 : (p == -1) = false := by rw [beq_eq_false_iff_ne]; omega
          go_wp2_with fail
          refine (inner_any s _ (by omega) h2).mono ?_
          rintro e w5 ⟨r, rfl, rfl, hr⟩
          cases r with
          | false =>
            clear hr
            cases hz : (La == 0) with
            | true =>
              have hz2 : ((La : Int) != 0) = false := by have := beq_iff_eq.1 hz; subst this; rfl
              go_wp2
              go_ret
              exact ⟨rfl, HB.out⟩
            | false =>
              have hz2 : ((La : Int) != 0) = true := by rw [bne_iff_ne]; have := beq_eq_false_iff_ne.1 hz; omega
              go_wp2_with fail
              refine (vbody_any s _ (by omega) H0.out H1.out).mono ?_
              rintro e w6 ⟨rfl, rfl⟩
              obtain ⟨v, hv⟩ : ∃ v, Bc.vbI s.data.toList = v := ⟨_, rfl⟩
              rw [hv]
              clear hv
              by_cases hv0 : 0 ≤ v
              · go_wp2
                go_ret
                exact ⟨rfl, HB.out⟩
              · go_wp2
                go_ret
                exact ⟨rfl, HB.out⟩
          | true =>
            clear hr
            cases hz : (La == 0) with
            | true =>
              have hz2 : ((La : Int) != 0) = false := by have := beq_iff_eq.1 hz; subst this; rfl
              go_wp2
              go_ret
              exact ⟨rfl, HB.out⟩
            | false =>
              have hz2 : ((La : Int) != 0) = true := by rw [bne_iff_ne]; have := beq_eq_false_iff_ne.1 hz; omega
              go_wp2_with fail
              refine (vbody_any s _ (by omega) H0.out H1.out).mono ?_
              rintro e w6 ⟨rfl, rfl⟩
              obtain ⟨v, hv⟩ : ∃ v, Bc.vbI s.data.toList = v := ⟨_, rfl⟩
              rw [hv]
              clear hv
              by_cases hv0 : 0 ≤ v
              · go_wp2
                go_ret
                exact ⟨rfl, HB.out⟩
              · go_wp2
                go_ret
                exact ⟨rfl, HB.out⟩
      · have t0 : (p != q) = true := by rw [bne_iff_ne]; exact hpq
        rcases k2 with rfl | ⟨k5, k6, k7, k8⟩
        · rcases k1 with rfl | ⟨k5, k6⟩
          · exact absurd rfl hpq
          · have t1 : (p != -1) = true := by rw [bne_iff_ne]; omega
            have t2 : (p == -1) = false := by rw [beq_eq_false_iff_ne]; omega
            go_wp2_with fail
            refine (inner_any s _ (by omega) h2).mono ?_
            rintro e w5 ⟨r, rfl, rfl, hr⟩
            cases r with
            | false => exact absurd (K3.out (hr rfl)) hpq
            | true =>
              clear hr
              cases hz : (La == 0) with
              | true =>
                have hz2 : ((La : Int) != 0) = false := by have := beq_iff_eq.1 hz; subst this; rfl
                go_wp2
                go_ret
                exact ⟨rfl, HB.out⟩
              | false =>
                have hz2 : ((La : Int) != 0) = true := by rw [bne_iff_ne]; have := beq_eq_false_iff_ne.1 hz; omega
                have HV : Hid (Bc.vbI s.data.toList = -1) := vbI_of_none (Classical.byContradiction fun h => hpq (K4.out hz h))
                go_wp2_with fail
                refine (vbody_any s _ (by omega) H0.out H1.out).mono ?_
                rintro e w6 ⟨rfl, rfl⟩
                rw [HV.out]
                go_wp2
                go_ret
                exact ⟨rfl, HB.out⟩
        · rcases k1 with rfl | ⟨k9, k10⟩
          · exact absurd rfl k7
          · have t1 : (p != -1) = true := by rw [bne_iff_ne]; omega
            have t2 : (p == -1) = false := by rw [beq_eq_false_iff_ne]; omega
            have t3 : (q != -1) = true := by rw [bne_iff_ne]; omega
            have t4 : (q == -1) = false := by rw [beq_eq_false_iff_ne]; omega
            go_wp2_with fail
            refine (inner_any s _ (by omega) h2).mono ?_
            rintro e w5 ⟨r, rfl, rfl, hr⟩
            cases r with
            | false => exact absurd (K3.out (hr rfl)) hpq
            | true =>
              clear hr
              cases hz : (La == 0) with
              | true =>
                have hz2 : ((La : Int) != 0) = false := by have := beq_iff_eq.1 hz; subst this; rfl
                go_wp2
                go_ret
                exact ⟨rfl, HB.out⟩
              | false =>
                have hz2 : ((La : Int) != 0) = true := by rw [bne_iff_ne]; have := beq_eq_false_iff_ne.1 hz; omega
                have HV : Hid (Bc.vbI s.data.toList = -1) := vbI_of_none (Classical.byContradiction fun h => hpq (K4.out hz h))
                go_wp2_with fail
                refine (vbody_any s _ (by omega) H0.out H1.out).mono ?_
                rintro e w6 ⟨rfl, rfl⟩
                rw [HV.out]
                go_wp2
                go_ret
                exact ⟨rfl, HB.out⟩
end Go.Proofs.Qxb6606379aDoor
