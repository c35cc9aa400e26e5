import Derived.Test.Qxb6603812aSkipC
namespace Go.Proofs.Qxb6603812a
open Go.RowKit

set_option maxHeartbeats 1000000 in
set_option maxRecDepth 100000 in
theorem dollarQuoted_run (s : ByteArray) (i : Nat) (m : Int) (x1 : UInt8) (w : World) (hs : s.size ≤ 1048577) (hi : i + 1 < s.size) (hm : w.cell? ⟨0, 0, none⟩ = some (.int .i64 m))
    (hx1 : s[i + 1] = x1) (hws : Sq.isWS x1 = true) :
    Calls Try.prog 28 #[.string s, .int .i64 i] w fun e w' => e = .returned (.int .i64 (Sq.dolAt s.data.toList i)) ∧ w' = w := by
  have HL : Hid (s.data.toList.length = s.size) := (Lib.size_eq s).symm
  have HJ : Hid (Sq.dolJ s.data.toList i = Sq.runAt Sq.isTag s.data.toList (i + 2)) := Sq.dolJ_run (by rw [← hx1]; exact Lib.data_getElem? s (i + 1) hi) hws
  go_enter Try.func28, Try.ntmps28
  go_wp2_with (go_at_call 37; refine (isWordStart_any x1 _).mono ?_; rintro e w' ⟨rfl, rfl⟩; rw [hws])
  clear hx1 hws
  go_loop [5] (fun a => ∃ k : Nat, i + 2 ≤ k ∧ k ≤ s.size ∧ a = .int .i64 k ∧ Hid (Sq.dolJ s.data.toList i = Sq.runAt Sq.isTag s.data.toList k)) (fun a => s.size - (intOf a).toNat)
  case atStart => exact ⟨i + 2, by omega, by omega, by go_num, HJ⟩
  case round =>
    obtain ⟨k, hk0, hk, rfl, HI⟩ := hrel
    by_cases hlt : k < s.size
    · obtain ⟨x, hx⟩ : ∃ x : UInt8, s[k]'hlt = x := ⟨_, rfl⟩
      have Hx : Hid (s.data.toList[k]? = some x) := by rw [← hx]; exact Lib.data_getElem? s k hlt
      have hT : Hid (Sq.isTag x = (Sq.isWS x || Sq.isDig x)) := rfl
      cases h1 : Sq.isWS x with
      | true =>
        have HN : Hid (Sq.dolJ s.data.toList i = Sq.runAt Sq.isTag s.data.toList (k + 1)) := by
          rw [Hid, HI.out, Sq.runAt_yes Hx.out (by rw [hT.out, h1]; rfl)]
        go_wp2_with (first
          | (go_at_call 37; refine (isWordStart_any x _).mono ?_; rintro e w2 ⟨rfl, rfl⟩; rw [h1])
          | (go_at_call 30; refine (isDigit_any x _).mono ?_; rintro e w2 ⟨rfl, rfl⟩; rw [h2]))
        go_round
        case rel => exact ⟨k + 1, by omega, by omega, by go_num, HN⟩
        case measure => simp [intOf]; omega
      | false =>
        cases h2 : Sq.isDig x with
        | true =>
          have HN : Hid (Sq.dolJ s.data.toList i = Sq.runAt Sq.isTag s.data.toList (k + 1)) := by
            rw [Hid, HI.out, Sq.runAt_yes Hx.out (by rw [hT.out, h1, h2]; rfl)]
          go_wp2_with (first
            | (go_at_call 37; refine (isWordStart_any x _).mono ?_; rintro e w2 ⟨rfl, rfl⟩; rw [h1])
            | (go_at_call 30; refine (isDigit_any x _).mono ?_; rintro e w2 ⟨rfl, rfl⟩; rw [h2]))
          go_round
          case rel => exact ⟨k + 1, by omega, by omega, by go_num, HN⟩
          case measure => simp [intOf]; omega
        | false =>
          have HK : Hid (Sq.dolJ s.data.toList i = k) := by
            rw [Hid, HI.out, Sq.runAt_no Hx.out (by rw [hT.out, h1, h2]; rfl)]
          have e1 : ((k : Int) == (s.size : Int)) = false := beq_eq_false_iff_ne.2 (by omega)
          have B36 : Hid (((x.toNat : Int) != 36) = (x != 36)) := Sq.byte_bne x 36
          cases e36 : ((x.toNat : Int) != 36) with
          | true =>
            have HF : Hid (Sq.dolAt s.data.toList i = i) := Sq.dolAt_no HK.out (by
              rw [Hx.out]
              have h := B36.out
              rw [e36] at h
              intro he
              cases he
              revert h; decide)
            go_wp2_with (first
              | (go_at_call 37; refine (isWordStart_any x _).mono ?_; rintro e w2 ⟨rfl, rfl⟩; rw [h1])
              | (go_at_call 30; refine (isDigit_any x _).mono ?_; rintro e w2 ⟨rfl, rfl⟩; rw [h2]))
            go_ret
            exact ⟨ret_int (by rw [HF.out]), rfl⟩
          | false =>
            have hx36 : x = 36 := by
              have h := B36.out
              rw [e36] at h
              simpa using h.symm
            obtain ⟨e, he⟩ : ∃ e, Lib.index (s.data.toList.drop (k + 1)) ((s.data.toList.drop i).take (k + 1 - i)) = e := ⟨_, rfl⟩
            have HF := Sq.dolAt_yes HK.out (by rw [Hx.out, hx36])
            have hb := Sq.index_bound (s.data.toList.drop (k + 1)) ((s.data.toList.drop i).take (k + 1 - i))
            rw [he] at HF hb
            rw [List.length_drop, List.length_take, List.length_drop, HL.out] at hb
            have HE : Hid (Lib.index (s.extract (k + 1) s.size).data.toList (s.extract i (k + 1)).data.toList = e) := by
              rw [Hid, Lib.extract_to_end, Lib.extract_data]; exact he
            have Hz : Hid ((s.extract (k + 1) s.size).size < 4294967281) := by rw [Hid, Lib.size_eq, Lib.extract_to_end, List.length_drop, HL.out]; omega
            have HG : Hid (Sq.dolAt s.data.toList i = if e < 0 then s.data.toList.length else k + 1 + e.toNat + (k + 1 - i)) := HF
            clear HF he hx36
            by_cases h0 : e < 0
            · clear hb
              go_wp2_with (first
                | (go_at_call 37; refine (isWordStart_any x _).mono ?_; rintro e w2 ⟨rfl, rfl⟩; rw [h1])
                | (go_at_call 30; refine (isDigit_any x _).mono ?_; rintro e w2 ⟨rfl, rfl⟩; rw [h2])
                | (go_at_call 38; refine (Try.strings_Index _ _ _ _ Hz.out hm).mono ?_; rintro e w2 ⟨rfl, rfl⟩; rw [HE.out]))
              go_ret
              exact ⟨ret_int (by rw [HG.out, if_pos h0, HL.out]), rfl⟩
            · have hb2 := hb (by omega)
              clear hb
              go_wp2_with (first
                | (go_at_call 37; refine (isWordStart_any x _).mono ?_; rintro e w2 ⟨rfl, rfl⟩; rw [h1])
                | (go_at_call 30; refine (isDigit_any x _).mono ?_; rintro e w2 ⟨rfl, rfl⟩; rw [h2])
                | (go_at_call 38; refine (Try.strings_Index _ _ _ _ Hz.out hm).mono ?_; rintro e w2 ⟨rfl, rfl⟩; rw [HE.out]))
              go_ret
              exact ⟨ret_int (by rw [HG.out, if_neg (by omega)]; go_num), rfl⟩
    · have e1 : ((k : Int) == (s.size : Int)) = true := beq_iff_eq.2 (by omega)
      have HF : Hid (Sq.dolAt s.data.toList i = i) := Sq.dolAt_no (k := k) (by rw [HI.out, Sq.runAt_end (by rw [HL.out]; omega)]) (by rw [List.getElem?_eq_none (by rw [HL.out]; omega)]; simp)
      go_wp2
      go_ret
      exact ⟨ret_int (by rw [HF.out]), rfl⟩

theorem dollarQuoted_any (s : ByteArray) (i : Nat) (m : Int) (w : World) (hs : s.size ≤ 1048577) (hi : i + 1 ≤ s.size) (hm : w.cell? ⟨0, 0, none⟩ = some (.int .i64 m)) :
    Calls Try.prog 28 #[.string s, .int .i64 i] w fun e w' => e = .returned (.int .i64 (Sq.dolAt s.data.toList i)) ∧ w' = w := by
  by_cases hlt : i + 1 < s.size
  · have hx := Lib.data_getElem? s (i + 1) hlt
    cases hw : Sq.isWS (s[i + 1]'hlt) with
    | true => exact dollarQuoted_run s i m _ w hs hlt hm rfl hw
    | false => exact dollarQuoted_flat s i m w hs hi hm fun x h => by rw [hx] at h; cases h; exact hw
  · exact dollarQuoted_flat s i m w hs hi hm fun x h => by
      have := (List.getElem?_eq_some_iff.1 h).1
      rw [← Lib.size_eq] at this
      omega
end Go.Proofs.Qxb6603812a
