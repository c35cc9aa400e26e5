import Derived.Test.Qxb6603812aLawA
namespace Go.Proofs.Qxb6603812a
open Go.RowKit
namespace Sq
def isGap (x : UInt8) : Bool := isSp x || isBrk x

theorem cont_facts (l : List UInt8) (n : Nat) (hn : n ≤ l.length) (h : contAt l n ≠ n) :
    n + 2 ≤ contAt l n ∧ contAt l n ≤ l.length ∧ l[contAt l n - 1]? = some 39 ∧ anyBrk ((l.drop n).take (contAt l n - 1 - n)) = true ∧ contAt (l.take (contAt l n)) n = contAt l n := by
  cases hc : cont false false (l.drop n) with
  | none => exact absurd (by unfold contAt; rw [hc]) h
  | some k =>
    have hr : contAt l n = n + k := by unfold contAt; rw [hc]
    have h1 := cont_pos _ _ _ _ hc
    have h2 := cont_quote _ _ _ _ hc
    have h3 := cont_take _ _ _ _ hc
    rw [List.length_drop] at h1
    have hb : anyBrk ((l.drop n).take (k - 1)) = true := h2.2.resolve_left (by decide)
    have hk : 2 ≤ k := by
      rcases Nat.lt_or_ge k 2 with h | h
      · have : k - 1 = 0 := by omega
        rw [this] at hb
        simp [anyBrk] at hb
      · exact h
    rw [hr]
    refine ⟨by omega, by omega, ?_, ?_, ?_⟩
    · have := h2.1
      rw [List.getElem?_drop] at this
      rw [show n + k - 1 = n + (k - 1) from by omega]
      exact this
    · rw [show n + k - 1 - n = k - 1 from by omega]; exact hb
    · have : (l.take (n + k)).drop n = (l.drop n).take k := by
        rw [List.drop_take, Nat.add_sub_cancel_left]
      unfold contAt
      rw [this, h3]

theorem gap_of (l : List UInt8) (n : Nat) (x : UInt8) (hx : l[n]? = some x) (h : contAt l n ≠ n) (hg : isGap x = false) : (x == 45) = true := by
  cases h45 : x == 45 with
  | true => rfl
  | false =>
    exfalso
    simp [isGap] at hg
    refine h ?_
    unfold contAt
    rw [drop_at hx, cont_head x _ hg.2 hg.1 h45]

theorem byte_bne (x y : UInt8) : ((x.toNat : Int) != (y.toNat : Int)) = (x != y) := by
  unfold bne; rw [byte_beq]
end Sq

theorem ret_bool {a b : Bool} (h : a = b) : Ending.returned (.bool a) = .returned (.bool b) := by rw [h]

set_option maxHeartbeats 400000 in
theorem isGapByte_any (x : UInt8) (w : World) :
    Calls Try.prog 10 #[.int .u8 x.toNat] w fun e w' => e = .returned (.bool (Sq.isGap x)) ∧ w' = w := by
  have B10 : Hid (((x.toNat : Int) == 10) = (x == 10)) := Sq.byte_beq x 10
  have B13 : Hid (((x.toNat : Int) == 13) = (x == 13)) := Sq.byte_beq x 13
  have B32 : Hid (((x.toNat : Int) == 32) = (x == 32)) := Sq.byte_beq x 32
  have B9 : Hid (((x.toNat : Int) == 9) = (x == 9)) := Sq.byte_beq x 9
  have B12 : Hid (((x.toNat : Int) == 12) = (x == 12)) := Sq.byte_beq x 12
  have hG : Hid (Sq.isGap x = ((((x.toNat : Int) == 32) || ((x.toNat : Int) == 9) || ((x.toNat : Int) == 12)) || (((x.toNat : Int) == 10) || ((x.toNat : Int) == 13)))) := by
    rw [Hid, B10.out, B13.out, B32.out, B9.out, B12.out]; rfl
  clear B10 B13 B32 B9 B12
  cases e32 : ((x.toNat : Int) == 32) <;> cases e9 : ((x.toNat : Int) == 9) <;> cases e12 : ((x.toNat : Int) == 12) <;> cases e10 : ((x.toNat : Int) == 10) <;> cases e13 : ((x.toNat : Int) == 13)
  all_goals
    first
    | (exfalso; simp only [beq_iff_eq, beq_eq_false_iff_ne] at *; omega)
    | (go_enter Try.func10, Try.ntmps10
       go_wp2
       go_ret
       exact ⟨by rw [hG.out, e32, e9, e12, e10, e13]; rfl, rfl⟩)

set_option maxHeartbeats 400000 in
theorem hasLineBreak_any (s : ByteArray) (w : World) (hs : s.size ≤ 1048577) :
    Calls Try.prog 11 #[.string s] w fun e w' => e = .returned (.bool (Sq.anyBrk s.data.toList)) ∧ w' = w := by
  have HL : Hid (s.data.toList.length = s.size) := (Lib.size_eq s).symm
  go_enter Try.func11, Try.ntmps11
  go_wp2
  go_loop [3] (fun a => ∃ k : Nat, k ≤ s.size ∧ a = .int .i64 k ∧ Hid (Sq.anyBrk (s.data.toList.take k) = false)) (fun a => s.size - (intOf a).toNat)
  case atStart => exact ⟨0, Nat.zero_le _, rfl, rfl⟩
  case round =>
    obtain ⟨k, hk, rfl, HI⟩ := hrel
    by_cases hlt : k < s.size
    · obtain ⟨x, hx⟩ : ∃ x : UInt8, s[k]'hlt = x := ⟨_, rfl⟩
      have Hx : Hid (s.data.toList[k]? = some x) := by rw [← hx]; exact Lib.data_getElem? s k hlt
      have B10 : Hid (((x.toNat : Int) == 10) = (x == 10)) := Sq.byte_beq x 10
      have B13 : Hid (((x.toNat : Int) == 13) = (x == 13)) := Sq.byte_beq x 13
      have hbrk : Hid (Sq.isBrk x = (((x.toNat : Int) == 10) || ((x.toNat : Int) == 13))) := by unfold Sq.isBrk; rw [← B10.out, ← B13.out]; rfl
      have htk : Hid (s.data.toList.take (k + 1) = s.data.toList.take k ++ [x]) := by
        have h := List.take_add_one (l := s.data.toList) (i := k)
        rw [Hx.out] at h
        exact h
      have hall : Hid (Sq.isBrk x = true → Sq.anyBrk s.data.toList = true) := fun h => by
        have : x ∈ s.data.toList := List.mem_of_getElem? Hx.out
        exact List.any_eq_true.2 ⟨x, this, h⟩
      cases e10 : ((x.toNat : Int) == 10) with
      | true =>
        go_wp2
        go_ret
        exact ⟨ret_bool (hall.out (by rw [hbrk.out, e10]; rfl)).symm, rfl⟩
      | false =>
        cases e13 : ((x.toNat : Int) == 13) with
        | true =>
          go_wp2
          go_ret
          exact ⟨ret_bool (hall.out (by rw [hbrk.out, e13]; simp)).symm, rfl⟩
        | false =>
          have HN : Hid (Sq.anyBrk (s.data.toList.take (k + 1)) = false) := by
            have h := HI.out
            rw [Hid, htk.out]
            unfold Sq.anyBrk at h ⊢
            rw [List.any_append, h, List.any_cons, hbrk.out, e10, e13]; rfl
          go_wp2
          go_round
          case rel => exact ⟨k + 1, by omega, by go_num, HN⟩
          case measure => simp [intOf]; omega
    · go_wp2
      go_ret
      have h := HI.out
      rw [List.take_of_length_le (by rw [HL.out]; omega)] at h
      exact ⟨ret_bool h.symm, rfl⟩

set_option maxHeartbeats 400000 in
theorem zzBytesB (s : ByteArray) (i : Int) (w : World) (hs : s.size ≤ 1048576) :
    Calls Try.prog 9 #[.string s, .int .i64 i] w fun e w' => e = .returned (.bool true) ∧ w' = w := by
  go_enter Try.func9, Try.ntmps9
  go_wp2
  go_ret
  exact ⟨rfl, rfl⟩

set_option maxHeartbeats 400000 in
theorem zzBytesB_no (s : ByteArray) (i : Int) (w : World) (hs : ¬ s.size ≤ 1048576) :
    Calls Try.prog 9 #[.string s, .int .i64 i] w fun e w' => e = .returned (.bool false) ∧ w' = w := by
  go_enter Try.func9, Try.ntmps9
  go_wp2
  go_ret
  exact ⟨rfl, rfl⟩

/-- The answer is the index itself. -/
theorem walkB_same (s : ByteArray) (n : Nat) (w : World) (hs : s.size ≤ 1048576) (hn : n ≤ s.size) (hr : Hid (Sq.contAt s.data.toList n = n)) :
    Calls Try.prog 4 #[.string s, .int .i64 n] w fun e w' => e = .returned (.bool true) ∧ Below w.heap.size w w' := by
  have hee : ((n : Int) == (n : Int)) = true := beq_iff_eq.2 rfl
  have hne : ((n : Int) != (n : Int)) = false := by simp
  by_cases hlt : n < s.size
  · obtain ⟨x, hx⟩ : ∃ x : UInt8, s[n]'hlt = x := ⟨_, rfl⟩
    cases hg : Sq.isGap x with
    | true =>
      go_enter Try.func4, Try.ntmps4
      go_wp2_with (first
        | (go_at_call 9; refine (zzBytesB _ _ _ hs).mono ?_; rintro e w' ⟨rfl, rfl⟩)
        | (go_at_call 8; refine (zzCont _ _ _ (by omega) (by omega) (by omega)).mono ?_; rintro e w1 ⟨rfl, hb1⟩; rw [Int.toNat_natCast, hr.out])
        | (go_at_call 10; refine (isGapByte_any x _).mono ?_; rintro e w' ⟨rfl, rfl⟩; rw [hg]))
      go_ret
      exact ⟨rfl, hb1⟩
    | false =>
      cases e45 : ((x.toNat : Int) != 45) with
      | true =>
        go_enter Try.func4, Try.ntmps4
        go_wp2_with (first
          | (go_at_call 9; refine (zzBytesB _ _ _ hs).mono ?_; rintro e w' ⟨rfl, rfl⟩)
          | (go_at_call 8; refine (zzCont _ _ _ (by omega) (by omega) (by omega)).mono ?_; rintro e w1 ⟨rfl, hb1⟩; rw [Int.toNat_natCast, hr.out])
          | (go_at_call 10; refine (isGapByte_any x _).mono ?_; rintro e w' ⟨rfl, rfl⟩; rw [hg]))
        go_ret
        exact ⟨rfl, hb1⟩
      | false =>
        go_enter Try.func4, Try.ntmps4
        go_wp2_with (first
          | (go_at_call 9; refine (zzBytesB _ _ _ hs).mono ?_; rintro e w' ⟨rfl, rfl⟩)
          | (go_at_call 8; refine (zzCont _ _ _ (by omega) (by omega) (by omega)).mono ?_; rintro e w1 ⟨rfl, hb1⟩; rw [Int.toNat_natCast, hr.out])
          | (go_at_call 10; refine (isGapByte_any x _).mono ?_; rintro e w' ⟨rfl, rfl⟩; rw [hg]))
        go_ret
        exact ⟨rfl, hb1⟩
  · go_enter Try.func4, Try.ntmps4
    go_wp2_with (first
      | (go_at_call 9; refine (zzBytesB _ _ _ hs).mono ?_; rintro e w' ⟨rfl, rfl⟩)
      | (go_at_call 8; refine (zzCont _ _ _ (by omega) (by omega) (by omega)).mono ?_; rintro e w1 ⟨rfl, hb1⟩; rw [Int.toNat_natCast, hr.out]))
    go_ret
    exact ⟨rfl, hb1⟩
end Go.Proofs.Qxb6603812a
