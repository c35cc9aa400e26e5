import Derived.Test.Qxb6606379aDoorB
import Derived.Lib.SmallJoins
namespace Go.Proofs.Qxb6606379aDoor
open Go.RowKit
namespace Bc

theorem shape2 {t : List UInt8} (h0 : t[0]? = some 47) (h1 : t[1]? = some 42) : ∃ l, t = 47 :: 42 :: l := by
  match t, h0, h1 with
  | a :: b :: l, h0, h1 =>
    simp at h0 h1
    exact ⟨l, by rw [h0, h1]⟩

theorem op_short {t : List UInt8} (h0 : t[0]? = some 47) (h1 : t[1]? = some 42) (h2 : t[2]? = none) : op t = none := by
  obtain ⟨l, rfl⟩ := shape2 h0 h1
  cases l with
  | nil => rfl
  | cons x l => simp at h2
theorem op_3 {t : List UInt8} (h0 : t[0]? = some 47) (h1 : t[1]? = some 42) (h2 : t[2]? = some 33) : op t = some 3 := by
  obtain ⟨l, rfl⟩ := shape2 h0 h1
  cases l with
  | nil => simp at h2
  | cons x l => simp at h2; subst h2; simp [op, Lib.hasPrefix, List.isPrefixOf]
theorem op_4 {t : List UInt8} (h0 : t[0]? = some 47) (h1 : t[1]? = some 42) (h2 : t[2]? = some 77) (h3 : t[3]? = some 33) : op t = some 4 := by
  obtain ⟨l, rfl⟩ := shape2 h0 h1
  match l, h2, h3 with
  | x :: y :: l, h2, h3 =>
    simp at h2 h3; subst h2; subst h3; simp [op, Lib.hasPrefix, List.isPrefixOf]
theorem op_no {t : List UInt8} {x : UInt8} (h0 : t[0]? = some 47) (h1 : t[1]? = some 42) (h2 : t[2]? = some x) (hx : x ≠ 33) (h : x ≠ 77 ∨ t[3]? ≠ some 33) : op t = none := by
  obtain ⟨l, rfl⟩ := shape2 h0 h1
  cases l with
  | nil => simp at h2
  | cons z l =>
    simp at h2; subst h2
    cases l with
    | nil => simp [op, Lib.hasPrefix, List.isPrefixOf, Ne.symm hx]
    | cons y l =>
      simp only [op, Lib.hasPrefix, List.isPrefixOf, beq_self_eq_true, Bool.true_and, Bool.and_true]
      rw [if_neg (by simpa using Ne.symm hx), if_neg]
      simp only [Bool.and_eq_true, beq_iff_eq]
      rintro ⟨e1, e2⟩
      rcases h with h | h
      · exact h e1.symm
      · exact h (by simp [e2])

def vbI (t : List UInt8) : Int := match vb t with
  | some s => s
  | none => -1
theorem vbI_none {t : List UInt8} (h : op t = none) : vbI t = -1 := by unfold vbI vb; rw [h]
theorem vb_few {t : List UInt8} {o : Nat} (h : op t = some o) (hd : dcr 6 (t.drop o) < 5) : vb t = none := by unfold vb; rw [h]; simp [hd]
theorem vb_many {t : List UInt8} {o : Nat} (h : op t = some o) (hd : ¬ dcr 6 (t.drop o) < 5) : vb t = some (o + dcr 6 (t.drop o)) := by unfold vb; rw [h]; simp [hd]
end Bc

theorem byte_is {x : UInt8} {n : Nat} (c : UInt8) (hc : c.toNat = n) (h : ((x.toNat : Int) == (n : Int)) = true) : x = c := UInt8.toNat_inj.1 (by have := beq_iff_eq.1 h; omega)
theorem byte_not {x : UInt8} {n : Nat} (c : UInt8) (hc : c.toNat = n) (h : ((x.toNat : Int) == (n : Int)) = false) : x ≠ c := by
  rintro rfl
  rw [hc] at h
  simp at h

theorem dig_facts {t : List UInt8} {o : Nat} (h : Bc.op t = some o) (ho : o ≤ t.length) : ∃ D, D ≤ 6 ∧ o + D ≤ t.length ∧ Hid (∀ k, k < D → ∃ x, t[o + k]? = some x ∧ Bc.isD x = true) ∧ Hid (∀ x, D < 6 → t[o + D]? = some x → Bc.isD x = false) ∧ Hid ((D < 5 → Bc.vb t = none) ∧ (¬ D < 5 → Bc.vb t = some (o + D))) := by
  have h1 := Bc.dcr_le 6 (t.drop o)
  rw [List.length_drop] at h1
  refine ⟨Bc.dcr 6 (t.drop o), h1.1, by omega, fun k hk => ?_, fun x hx he => ?_, fun h5 => Bc.vb_few h h5, fun h5 => Bc.vb_many h h5⟩
  · obtain ⟨x, hx, hd⟩ := Bc.dcr_at 6 (t.drop o) k hk
    rw [List.getElem?_drop] at hx
    exact ⟨x, hx, hd⟩
  · exact Bc.dcr_end 6 (t.drop o) x hx (by rw [List.getElem?_drop]; exact he)

theorem vbI_of_none {t : List UInt8} (h : Bc.vb t = none) : Bc.vbI t = -1 := by unfold Bc.vbI; rw [h]
theorem vbI_of_some {t : List UInt8} {s : Nat} (h : Bc.vb t = some s) : Bc.vbI t = s := by unfold Bc.vbI; rw [h]

theorem list_at {s : ByteArray} {k : Nat} {x : UInt8} (h : s.data.toList[k]? = some x) : ∃ hk : k < s.size, s[k]'hk = x := by
  have h1 := (List.getElem?_eq_some_iff.1 h).1
  rw [← Lib.size_eq] at h1
  exact ⟨h1, Option.some.inj ((Lib.data_getElem? s k h1).symm.trans h)⟩

theorem index_at {s : ByteArray} {o k : Nat} {x : UInt8} (h : s.data.toList[o + k]? = some x) (wx : World) : (Instr.index 9 (.string s) (.int .i64 ((o : Int) + (k : Int)))).run Tryd.prog wx = .ok (.int .u8 x.toNat) wx := by
  obtain ⟨hk, he⟩ := list_at h
  have e := run_index_string (P := Tryd.prog) (w := wx) 9 s .i64 ((o : Int) + (k : Int)) Tryd.underlying9
  rw [dif_pos (by omega)] at e
  rw [e]
  simp only [show ((o : Int) + (k : Int)).toNat = o + k from by omega, he]

set_option maxHeartbeats 1000000 in
set_option maxRecDepth 100000 in
theorem vbody_any (s : ByteArray) (w : World) (hs : s.size ≤ 1048576) (h0 : s.data.toList[0]? = some 47) (h1 : s.data.toList[1]? = some 42) :
    Calls Tryd.prog 10 #[.string s] w fun e w' => e = .returned (.int .i64 (Bc.vbI s.data.toList)) ∧ w' = w := by
  have H0 : Hid (s.data.toList[0]? = some 47) := h0
  have H1 : Hid (s.data.toList[1]? = some 42) := h1
  have h2 : 2 ≤ s.size := by have := (List.getElem?_eq_some_iff.1 h1).1; rw [← Lib.size_eq] at this; omega
  have b0 : s[0]'(by omega) = 47 := Option.some.inj ((Lib.data_getElem? s 0 (by omega)).symm.trans h0)
  have b1 : s[1]'(by omega) = 42 := Option.some.inj ((Lib.data_getElem? s 1 (by omega)).symm.trans h1)
  clear h0 h1
  by_cases c3 : 3 ≤ s.size
  case neg =>
    have HR : Hid (Bc.vbI s.data.toList = -1) := Bc.vbI_none (Bc.op_short H0.out H1.out (List.getElem?_eq_none (by rw [← Lib.size_eq]; omega)))
    go_enter Tryd.func10, Tryd.ntmps10
    go_wp2
    go_ret
    exact ⟨ret_int (by rw [HR.out]), rfl⟩
  obtain ⟨x2, hx2⟩ : ∃ x : UInt8, s[2]'(by omega) = x := ⟨_, rfl⟩
  have H2 : Hid (s.data.toList[2]? = some x2) := by rw [← hx2]; exact Lib.data_getElem? s 2 (by omega)
  cases e33 : ((x2.toNat : Int) == 33) with
  | true =>
    have HOP : Hid (Bc.op s.data.toList = some 3) := Bc.op_3 H0.out H1.out (by rw [H2.out, byte_is 33 rfl e33])
    go_enter Tryd.func10, Tryd.ntmps10
    obtain ⟨D, hD6, hDS, HAT, HEND, HV⟩ := dig_facts HOP.out (by rw [← Lib.size_eq]; omega)
    rw [← Lib.size_eq] at hDS
    clear HOP
    go_wp2
    go_loop [4] (fun a => ∃ k : Nat, k ≤ D ∧ a = .int .i64 k) (fun a => D - (intOf a).toNat)
    case atStart => exact ⟨0, Nat.zero_le _, rfl⟩
    case round =>
      obtain ⟨k, hk, rfl⟩ := hrel
      by_cases hlt : k < D
      · obtain ⟨x, hx, hxd⟩ := HAT.out k hlt
        have HXD : Hid (Bc.isD x = true) := hxd
        obtain ⟨hkk, hkx⟩ := list_at hx
        clear hx hxd
        go_wp2_with fail
        refine (zzIsDigit_any x _).mono ?_
        rintro e w2 ⟨rfl, rfl⟩
        rw [HXD.out]
        go_wp2
        go_round
        case rel => exact ⟨k + 1, by omega, by go_num⟩
        case measure => simp [intOf]; omega
      · obtain rfl : k = D := by omega
        by_cases h6 : k < 6
        · by_cases hS : 3 + k < s.size
          · obtain ⟨x, hx⟩ : ∃ x, s.data.toList[3 + k]? = some x := ⟨_, Lib.data_getElem? s (3 + k) hS⟩
            have HXD : Hid (Bc.isD x = false) := HEND.out x h6 hx
            obtain ⟨hkk, hkx⟩ := list_at hx
            clear hx
            by_cases h5 : k < 5
            · have HR : Hid (Bc.vbI s.data.toList = -1) := vbI_of_none (HV.out.1 h5)
              go_wp2_with fail
              refine (zzIsDigit_any x _).mono ?_
              rintro e w2 ⟨rfl, rfl⟩
              rw [HXD.out]
              go_wp2
              go_ret
              exact ⟨ret_int (by rw [HR.out]), rfl⟩
            · have HR : Hid (Bc.vbI s.data.toList = (3 + k : Nat)) := vbI_of_some (HV.out.2 h5)
              go_wp2_with fail
              refine (zzIsDigit_any x _).mono ?_
              rintro e w2 ⟨rfl, rfl⟩
              rw [HXD.out]
              go_wp2
              go_ret
              exact ⟨ret_int (by rw [HR.out]; omega), rfl⟩
          · by_cases h5 : k < 5
            · have HR : Hid (Bc.vbI s.data.toList = -1) := vbI_of_none (HV.out.1 h5)
              go_wp2
              go_ret
              exact ⟨ret_int (by rw [HR.out]), rfl⟩
            · have HR : Hid (Bc.vbI s.data.toList = (3 + k : Nat)) := vbI_of_some (HV.out.2 h5)
              go_wp2
              go_ret
              exact ⟨ret_int (by rw [HR.out]; omega), rfl⟩
        · have h5 : ¬ k < 5 := by omega
          have HR : Hid (Bc.vbI s.data.toList = (3 + k : Nat)) := vbI_of_some (HV.out.2 h5)
          go_wp2
          go_ret
          exact ⟨ret_int (by rw [HR.out]; omega), rfl⟩
  | false =>
    have N33 : Hid (x2 ≠ 33) := byte_not 33 rfl e33
    by_cases c4 : 4 ≤ s.size
    case neg =>
      have HR : Hid (Bc.vbI s.data.toList = -1) := Bc.vbI_none (Bc.op_no H0.out H1.out H2.out N33.out (.inr (by rw [List.getElem?_eq_none (by rw [← Lib.size_eq]; omega)]; simp)))
      go_enter Tryd.func10, Tryd.ntmps10
      go_wp2
      go_ret
      exact ⟨ret_int (by rw [HR.out]), rfl⟩
    obtain ⟨x3, hx3⟩ : ∃ x : UInt8, s[3]'(by omega) = x := ⟨_, rfl⟩
    have H3 : Hid (s.data.toList[3]? = some x3) := by rw [← hx3]; exact Lib.data_getElem? s 3 (by omega)
    cases e77 : ((x2.toNat : Int) == 77) with
    | false =>
      have HR : Hid (Bc.vbI s.data.toList = -1) := Bc.vbI_none (Bc.op_no H0.out H1.out H2.out N33.out (.inl (byte_not 77 rfl e77)))
      go_enter Tryd.func10, Tryd.ntmps10
      go_wp2
      go_ret
      exact ⟨ret_int (by rw [HR.out]), rfl⟩
    | true =>
      cases f33 : ((x3.toNat : Int) == 33) with
      | false =>
        have HR : Hid (Bc.vbI s.data.toList = -1) := Bc.vbI_none (Bc.op_no H0.out H1.out H2.out N33.out (.inr (by rw [H3.out]; simpa using byte_not 33 rfl f33)))
        go_enter Tryd.func10, Tryd.ntmps10
        go_wp2
        go_ret
        exact ⟨ret_int (by rw [HR.out]), rfl⟩
      | true =>
        have HOP : Hid (Bc.op s.data.toList = some 4) := Bc.op_4 H0.out H1.out (by rw [H2.out, byte_is 77 rfl e77]) (by rw [H3.out, byte_is 33 rfl f33])
        go_enter Tryd.func10, Tryd.ntmps10
        obtain ⟨D, hD6, hDS, HAT, HEND, HV⟩ := dig_facts HOP.out (by rw [← Lib.size_eq]; omega)
        rw [← Lib.size_eq] at hDS
        clear HOP
        go_wp2
        go_loop [4] (fun a => ∃ k : Nat, k ≤ D ∧ a = .int .i64 k) (fun a => D - (intOf a).toNat)
        case atStart => exact ⟨0, Nat.zero_le _, rfl⟩
        case round =>
          obtain ⟨k, hk, rfl⟩ := hrel
          by_cases hlt : k < D
          · obtain ⟨x, hx, hxd⟩ := HAT.out k hlt
            have HXD : Hid (Bc.isD x = true) := hxd
            obtain ⟨hkk, hkx⟩ := list_at hx
            clear hx hxd
            go_wp2_with fail
            refine (zzIsDigit_any x _).mono ?_
            rintro e w2 ⟨rfl, rfl⟩
            rw [HXD.out]
            go_wp2
            go_round
            case rel => exact ⟨k + 1, by omega, by go_num⟩
            case measure => simp [intOf]; omega
          · obtain rfl : k = D := by omega
            by_cases h6 : k < 6
            · by_cases hS : 4 + k < s.size
              · obtain ⟨x, hx⟩ : ∃ x, s.data.toList[4 + k]? = some x := ⟨_, Lib.data_getElem? s (4 + k) hS⟩
                have HXD : Hid (Bc.isD x = false) := HEND.out x h6 hx
                obtain ⟨hkk, hkx⟩ := list_at hx
                clear hx
                by_cases h5 : k < 5
                · have HR : Hid (Bc.vbI s.data.toList = -1) := vbI_of_none (HV.out.1 h5)
                  go_wp2_with fail
                  refine (zzIsDigit_any x _).mono ?_
                  rintro e w2 ⟨rfl, rfl⟩
                  rw [HXD.out]
                  go_wp2
                  go_ret
                  exact ⟨ret_int (by rw [HR.out]), rfl⟩
                · have HR : Hid (Bc.vbI s.data.toList = (4 + k : Nat)) := vbI_of_some (HV.out.2 h5)
                  go_wp2_with fail
                  refine (zzIsDigit_any x _).mono ?_
                  rintro e w2 ⟨rfl, rfl⟩
                  rw [HXD.out]
                  go_wp2
                  go_ret
                  exact ⟨ret_int (by rw [HR.out]; omega), rfl⟩
              · by_cases h5 : k < 5
                · have HR : Hid (Bc.vbI s.data.toList = -1) := vbI_of_none (HV.out.1 h5)
                  go_wp2
                  go_ret
                  exact ⟨ret_int (by rw [HR.out]), rfl⟩
                · have HR : Hid (Bc.vbI s.data.toList = (4 + k : Nat)) := vbI_of_some (HV.out.2 h5)
                  go_wp2
                  go_ret
                  exact ⟨ret_int (by rw [HR.out]; omega), rfl⟩
            · have h5 : ¬ k < 5 := by omega
              have HR : Hid (Bc.vbI s.data.toList = (4 + k : Nat)) := vbI_of_some (HV.out.2 h5)
              go_wp2
              go_ret
              exact ⟨ret_int (by rw [HR.out]; omega), rfl⟩
end Go.Proofs.Qxb6606379aDoor
