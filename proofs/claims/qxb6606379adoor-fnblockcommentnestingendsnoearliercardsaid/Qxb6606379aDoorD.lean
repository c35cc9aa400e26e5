import Derived.Test.Qxb6606379aDoorC
namespace Go.Proofs.Qxb6606379aDoor
open Go.RowKit

theorem extract_list (s : ByteArray) (a b : Nat) : (s.extract a b).data.toList = (s.data.toList.drop a).take (b - a) := by
  rw [ByteArray.data_extract, Array.toList_extract, List.extract_eq_take_drop]

theorem digits_atoi {s : ByteArray} {o k : Nat} (h5 : 5 ≤ k) (hS : o + k ≤ s.size) (h : ∀ j, j < k → ∃ x, s.data.toList[o + j]? = some x ∧ Bc.isD x = true) : ∃ v : Nat, Lib.atoi (s.extract o (o + k)).data.toList = some (v : Int) := by
  have hl : (s.extract o (o + k)).data.toList.length = k := by rw [← Lib.size_eq, ByteArray.size_extract]; omega
  refine Bc.atoi_digits _ (by intro e; rw [e] at hl; simp at hl; omega) fun x hx => ?_
  rw [extract_list s o (o + k)] at hx hl
  obtain ⟨j, hj⟩ := List.getElem?_of_mem hx
  have hjk : j < k := by have := (List.getElem?_eq_some_iff.1 hj).1; omega
  rw [List.getElem?_take_of_lt (by omega), List.getElem?_drop] at hj
  obtain ⟨y, hy, hd⟩ := h j hjk
  rw [hy] at hj
  cases hj
  exact hd

def RunPost (t : List UInt8) (w : World) (e : Ending) (w' : World) : Prop := ∃ n v : Int, e = .returned (.tuple #[.int .i64 n, .int .i64 v]) ∧ Below w.heap.size w w' ∧ ((∃ k : Nat, Bc.vb t = some k ∧ n = k ∧ 0 ≤ v) ∨ (Bc.vb t = none ∧ v = -1))

theorem vb_none {t : List UInt8} (h : Bc.op t = none) : Bc.vb t = none := by unfold Bc.vb; rw [h]
theorem prefix_len {t p : List UInt8} (h : Lib.hasPrefix t p = true) : p.length ≤ t.length := by
  obtain ⟨l, hl⟩ := List.isPrefixOf_iff_prefix.1 h
  rw [← hl, List.length_append]; omega

set_option maxHeartbeats 1000000 in
set_option maxRecDepth 100000 in
theorem runOpening_any (s : ByteArray) (w : World) (_hs : s.size ≤ 1048576) : Calls Tryd.prog 19 #[.string s] w fun e w' => RunPost s.data.toList w e w' := by
  cases hp3 : Lib.hasPrefix s.data.toList (⟨#[47, 42, 33]⟩ : ByteArray).data.toList with
  | true =>
    have HOP : Hid (Bc.op s.data.toList = some 3) := by unfold Bc.op; rw [Hid, if_pos hp3]
    have c3 : 3 ≤ s.size := by have := prefix_len hp3; rw [← Lib.size_eq] at this; exact this
    go_enter Tryd.func19, Tryd.ntmps19
    obtain ⟨D, hD6, hDS, HAT, HEND, HV⟩ := dig_facts HOP.out (by rw [← Lib.size_eq]; omega)
    rw [← Lib.size_eq] at hDS
    clear HOP
    go_wp2_with fail
    refine (Tryd.strings_HasPrefix s _ _).mono ?_
    rintro e w2 ⟨rfl, rfl⟩
    rw [hp3]
    go_wp2
    go_loop [4] (fun a => ∃ k : Nat, k ≤ D ∧ a = .int .i64 k) (fun a => D - (intOf a).toNat)
    case atStart => exact ⟨0, Nat.zero_le _, rfl⟩
    case round =>
      obtain ⟨k, hk, rfl⟩ := hrel
      by_cases hlt : k < D
      · obtain ⟨x, hx, hxd⟩ := HAT.out k hlt
        have HXD : Hid (Bc.isD x = true) := hxd
        obtain ⟨hkk, hkx⟩ := list_at hx
        clear hx hxd
        go_wp2_with fail
        refine (isDigit_any x _).mono ?_
        rintro e w2 ⟨rfl, rfl⟩
        rw [HXD.out]
        go_wp2
        go_round
        case rel => exact ⟨k + 1, by omega, by go_num⟩
        case measure => simp [intOf]; omega
      · obtain rfl : k = D := by omega
        by_cases h6 : k < 6
        · by_cases hS : 3 + k < s.size
          · obtain ⟨x, hx⟩ : ∃ x, s.data.toList[3 + k]? = some x := ⟨_, Lib.data_getElem? s (3 + k) hS⟩
            have HXD : Hid (Bc.isD x = false) := HEND.out x h6 hx
            obtain ⟨hkk, hkx⟩ := list_at hx
            clear hx
            by_cases h5 : k < 5
            · have HV0 : Hid (Bc.vb s.data.toList = none) := HV.out.1 h5
              go_wp2_with fail
              refine (isDigit_any x _).mono ?_
              rintro e w2 ⟨rfl, rfl⟩
              rw [HXD.out]
              go_wp2
              go_ret2
              exact ⟨_, _, rfl, Below.refl _ _, .inr ⟨HV0.out, rfl⟩⟩
            · have HV1 : Hid (Bc.vb s.data.toList = some (3 + k)) := HV.out.2 h5
              obtain ⟨v, hv⟩ := digits_atoi (s := s) (o := 3) (k := k) (by omega) (by omega) HAT.out
              have hsz : (s.extract 3 (3 + k)).size ≤ 18 := by rw [ByteArray.size_extract]; omega
              go_wp2_with fail
              refine (isDigit_any x _).mono ?_
              rintro e w2 ⟨rfl, rfl⟩
              rw [HXD.out]
              go_wp2_with fail
              refine (Tryd.strconv_Atoi _ _ hsz hv _).mono ?_
              rintro e w3 ⟨rfl, tt, rfl⟩
              go_wp2
              go_ret2
              exact ⟨_, _, rfl, Joins.below_bytesWorld _ _ _ _ (Nat.le_refl _), .inl ⟨_, HV1.out, by omega, by omega⟩⟩
          · by_cases h5 : k < 5
            · have HV0 : Hid (Bc.vb s.data.toList = none) := HV.out.1 h5
              go_wp2
              go_ret2
              exact ⟨_, _, rfl, Below.refl _ _, .inr ⟨HV0.out, rfl⟩⟩
            · have HV1 : Hid (Bc.vb s.data.toList = some (3 + k)) := HV.out.2 h5
              obtain ⟨v, hv⟩ := digits_atoi (s := s) (o := 3) (k := k) (by omega) (by omega) HAT.out
              have hsz : (s.extract 3 (3 + k)).size ≤ 18 := by rw [ByteArray.size_extract]; omega
              go_wp2_with fail
              refine (Tryd.strconv_Atoi _ _ hsz hv _).mono ?_
              rintro e w3 ⟨rfl, tt, rfl⟩
              go_wp2
              go_ret2
              exact ⟨_, _, rfl, Joins.below_bytesWorld _ _ _ _ (Nat.le_refl _), .inl ⟨_, HV1.out, by omega, by omega⟩⟩
        · have h5 : ¬ k < 5 := by omega
          have HV1 : Hid (Bc.vb s.data.toList = some (3 + k)) := HV.out.2 h5
          obtain ⟨v, hv⟩ := digits_atoi (s := s) (o := 3) (k := k) (by omega) (by omega) HAT.out
          have hsz : (s.extract 3 (3 + k)).size ≤ 18 := by rw [ByteArray.size_extract]; omega
          go_wp2_with fail
          refine (Tryd.strconv_Atoi _ _ hsz hv _).mono ?_
          rintro e w3 ⟨rfl, tt, rfl⟩
          go_wp2
          go_ret2
          exact ⟨_, _, rfl, Joins.below_bytesWorld _ _ _ _ (Nat.le_refl _), .inl ⟨_, HV1.out, by omega, by omega⟩⟩
  | false =>
    cases hp4 : Lib.hasPrefix s.data.toList (⟨#[47, 42, 77, 33]⟩ : ByteArray).data.toList with
    | false =>
      have HV0 : Hid (Bc.vb s.data.toList = none) := vb_none (by unfold Bc.op; rw [show Lib.hasPrefix s.data.toList [47, 42, 33] = false from hp3, show Lib.hasPrefix s.data.toList [47, 42, 77, 33] = false from hp4]; rfl)
      go_enter Tryd.func19, Tryd.ntmps19
      go_wp2_with fail
      refine (Tryd.strings_HasPrefix s _ _).mono ?_
      rintro e w2 ⟨rfl, rfl⟩
      rw [hp3]
      go_wp2_with fail
      refine (Tryd.strings_HasPrefix s _ _).mono ?_
      rintro e w2 ⟨rfl, rfl⟩
      rw [hp4]
      go_wp2
      go_ret2
      exact ⟨_, _, rfl, Below.refl _ _, .inr ⟨HV0.out, rfl⟩⟩
    | true =>
      have HOP : Hid (Bc.op s.data.toList = some 4) := by unfold Bc.op; rw [Hid, show Lib.hasPrefix s.data.toList [47, 42, 33] = false from hp3, show Lib.hasPrefix s.data.toList [47, 42, 77, 33] = true from hp4]; rfl
      have c4 : 4 ≤ s.size := by have := prefix_len hp4; rw [← Lib.size_eq] at this; exact this
      go_enter Tryd.func19, Tryd.ntmps19
      obtain ⟨D, hD6, hDS, HAT, HEND, HV⟩ := dig_facts HOP.out (by rw [← Lib.size_eq]; omega)
      rw [← Lib.size_eq] at hDS
      clear HOP
      go_wp2_with fail
      refine (Tryd.strings_HasPrefix s _ _).mono ?_
      rintro e w2 ⟨rfl, rfl⟩
      rw [hp3]
      go_wp2_with fail
      refine (Tryd.strings_HasPrefix s _ _).mono ?_
      rintro e w2 ⟨rfl, rfl⟩
      rw [hp4]
      go_wp2
      go_loop [4] (fun a => ∃ k : Nat, k ≤ D ∧ a = .int .i64 k) (fun a => D - (intOf a).toNat)
      case atStart => exact ⟨0, Nat.zero_le _, rfl⟩
      case round =>
        obtain ⟨k, hk, rfl⟩ := hrel
        by_cases hlt : k < D
        · obtain ⟨x, hx, hxd⟩ := HAT.out k hlt
          have HXD : Hid (Bc.isD x = true) := hxd
          obtain ⟨hkk, hkx⟩ := list_at hx
          clear hx hxd
          go_wp2_with fail
          refine (isDigit_any x _).mono ?_
          rintro e w2 ⟨rfl, rfl⟩
          rw [HXD.out]
          go_wp2
          go_round
          case rel => exact ⟨k + 1, by omega, by go_num⟩
          case measure => simp [intOf]; omega
        · obtain rfl : k = D := by omega
          by_cases h6 : k < 6
          · by_cases hS : 4 + k < s.size
            · obtain ⟨x, hx⟩ : ∃ x, s.data.toList[4 + k]? = some x := ⟨_, Lib.data_getElem? s (4 + k) hS⟩
              have HXD : Hid (Bc.isD x = false) := HEND.out x h6 hx
              obtain ⟨hkk, hkx⟩ := list_at hx
              clear hx
              by_cases h5 : k < 5
              · have HV0 : Hid (Bc.vb s.data.toList = none) := HV.out.1 h5
                go_wp2_with fail
                refine (isDigit_any x _).mono ?_
                rintro e w2 ⟨rfl, rfl⟩
                rw [HXD.out]
                go_wp2
                go_ret2
                exact ⟨_, _, rfl, Below.refl _ _, .inr ⟨HV0.out, rfl⟩⟩
              · have HV1 : Hid (Bc.vb s.data.toList = some (4 + k)) := HV.out.2 h5
                obtain ⟨v, hv⟩ := digits_atoi (s := s) (o := 4) (k := k) (by omega) (by omega) HAT.out
                have hsz : (s.extract 4 (4 + k)).size ≤ 18 := by rw [ByteArray.size_extract]; omega
                go_wp2_with fail
                refine (isDigit_any x _).mono ?_
                rintro e w2 ⟨rfl, rfl⟩
                rw [HXD.out]
                go_wp2_with fail
                refine (Tryd.strconv_Atoi _ _ hsz hv _).mono ?_
                rintro e w3 ⟨rfl, tt, rfl⟩
                go_wp2
                go_ret2
                exact ⟨_, _, rfl, Joins.below_bytesWorld _ _ _ _ (Nat.le_refl _), .inl ⟨_, HV1.out, by omega, by omega⟩⟩
            · by_cases h5 : k < 5
              · have HV0 : Hid (Bc.vb s.data.toList = none) := HV.out.1 h5
                go_wp2
                go_ret2
                exact ⟨_, _, rfl, Below.refl _ _, .inr ⟨HV0.out, rfl⟩⟩
              · have HV1 : Hid (Bc.vb s.data.toList = some (4 + k)) := HV.out.2 h5
                obtain ⟨v, hv⟩ := digits_atoi (s := s) (o := 4) (k := k) (by omega) (by omega) HAT.out
                have hsz : (s.extract 4 (4 + k)).size ≤ 18 := by rw [ByteArray.size_extract]; omega
                go_wp2_with fail
                refine (Tryd.strconv_Atoi _ _ hsz hv _).mono ?_
                rintro e w3 ⟨rfl, tt, rfl⟩
                go_wp2
                go_ret2
                exact ⟨_, _, rfl, Joins.below_bytesWorld _ _ _ _ (Nat.le_refl _), .inl ⟨_, HV1.out, by omega, by omega⟩⟩
          · have h5 : ¬ k < 5 := by omega
            have HV1 : Hid (Bc.vb s.data.toList = some (4 + k)) := HV.out.2 h5
            obtain ⟨v, hv⟩ := digits_atoi (s := s) (o := 4) (k := k) (by omega) (by omega) HAT.out
            have hsz : (s.extract 4 (4 + k)).size ≤ 18 := by rw [ByteArray.size_extract]; omega
            go_wp2_with fail
            refine (Tryd.strconv_Atoi _ _ hsz hv _).mono ?_
            rintro e w3 ⟨rfl, tt, rfl⟩
            go_wp2
            go_ret2
            exact ⟨_, _, rfl, Joins.below_bytesWorld _ _ _ _ (Nat.le_refl _), .inl ⟨_, HV1.out, by omega, by omega⟩⟩
end Go.Proofs.Qxb6606379aDoor
