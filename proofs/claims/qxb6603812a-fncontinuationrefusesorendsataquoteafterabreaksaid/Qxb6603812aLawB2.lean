import Derived.Test.Qxb6603812aLawB
namespace Go.Proofs.Qxb6603812a
open Go.RowKit

set_option maxHeartbeats 400000 in
/-- The answer lies behind a quote. -/
theorem walkB_other (s : ByteArray) (n m : Nat) (x : UInt8) (w : World) (hs : s.size ≤ 1048576) (hlt : n < s.size) (hnm : n < m) (hm : m < s.size) (hx : s[n]'hlt = x)
    (hr : Hid (Sq.contAt s.data.toList n = m + 1)) (hq : s[m]'hm = 39) (hbk : Hid (Sq.anyBrk (s.extract n m).data.toList = true))
    (hcut : Hid (Sq.contAt (s.extract 0 (m + 1)).data.toList n = m + 1)) (hz : Hid ((s.extract 0 (m + 1)).size = m + 1)) (hz2 : Hid ((s.extract n m).size ≤ 1048577))
    (hg : Sq.isGap x = true ∨ (Sq.isGap x = false ∧ ((x.toNat : Int) != 45) = false)) :
    Calls Try.prog 4 #[.string s, .int .i64 n] w fun e w' => e = .returned (.bool true) ∧ Below w.heap.size w w' := by
  have hee : ((m : Int) + 1 == (n : Int)) = false := beq_eq_false_iff_ne.2 (by omega)
  have hne : ((m : Int) + 1 != (n : Int)) = true := by rw [bne_iff_ne]; omega
  have hle : ¬ ((m : Int) + 1 ≤ (n : Int) + 1) := by omega
  have hle2 : ¬ ((s.size : Int) < (m : Int) + 1) := by omega
  rcases hg with hg | ⟨hg, e45⟩
  · go_enter Try.func4, Try.ntmps4
    go_wp2_with (go_at_call 9; refine (zzBytesB _ _ _ hs).mono ?_; rintro e w' ⟨rfl, rfl⟩)
    refine (zzCont _ _ _ (by omega) (by omega) (by omega)).mono ?_
    rintro e w1 ⟨rfl, hb1⟩
    rw [Int.toNat_natCast, hr.out]
    have HB1 : Hid (Below _ _ w1) := hb1
    clear hb1
    go_wp2_with (first
      | (go_at_call 10; refine (isGapByte_any x _).mono ?_; rintro e w2 ⟨rfl, rfl⟩; rw [hg])
      | (go_at_call 11; refine (hasLineBreak_any _ _ hz2.out).mono ?_; rintro e w2 ⟨rfl, rfl⟩; rw [hbk.out]))
    refine (zzCont _ _ _ (by rw [hz.out]; omega) (by omega) (by rw [hz.out]; omega)).mono ?_
    rintro e w3 ⟨rfl, hb3⟩
    rw [Int.toNat_natCast, hcut.out]
    have hfin : (((m + 1 : Nat) : Int) == (m : Int) + 1) = true := beq_iff_eq.2 (by omega)
    go_wp2
    go_ret
    exact ⟨rfl, HB1.out.trans (hb3.mono HB1.out.size)⟩
  · go_enter Try.func4, Try.ntmps4
    go_wp2_with (go_at_call 9; refine (zzBytesB _ _ _ hs).mono ?_; rintro e w' ⟨rfl, rfl⟩)
    refine (zzCont _ _ _ (by omega) (by omega) (by omega)).mono ?_
    rintro e w1 ⟨rfl, hb1⟩
    rw [Int.toNat_natCast, hr.out]
    have HB1 : Hid (Below _ _ w1) := hb1
    clear hb1
    go_wp2_with (first
      | (go_at_call 10; refine (isGapByte_any x _).mono ?_; rintro e w2 ⟨rfl, rfl⟩; rw [hg])
      | (go_at_call 11; refine (hasLineBreak_any _ _ hz2.out).mono ?_; rintro e w2 ⟨rfl, rfl⟩; rw [hbk.out]))
    refine (zzCont _ _ _ (by rw [hz.out]; omega) (by omega) (by rw [hz.out]; omega)).mono ?_
    rintro e w3 ⟨rfl, hb3⟩
    rw [Int.toNat_natCast, hcut.out]
    have hfin : (((m + 1 : Nat) : Int) == (m : Int) + 1) = true := beq_iff_eq.2 (by omega)
    go_wp2
    go_ret
    exact ⟨rfl, HB1.out.trans (hb3.mono HB1.out.size)⟩

theorem walkB (s : ByteArray) (i : Int) (w : World) :
    Calls Try.prog 4 #[.string s, .int .i64 i] w fun e w' => e = .returned (.bool true) ∧ Below w.heap.size w w' := by
  by_cases hs : ¬ s.size ≤ 1048576
  · go_enter Try.func4, Try.ntmps4
    go_wp2_with (go_at_call 9; refine (zzBytesB_no _ _ _ hs).mono ?_; rintro e w' ⟨rfl, rfl⟩)
    go_ret
    exact ⟨rfl, Below.refl _ _⟩
  have hs : s.size ≤ 1048576 := by omega
  by_cases h0 : i < 0
  · go_enter Try.func4, Try.ntmps4
    go_wp2_with (go_at_call 9; refine (zzBytesB _ _ _ hs).mono ?_; rintro e w' ⟨rfl, rfl⟩)
    go_ret
    exact ⟨rfl, Below.refl _ _⟩
  by_cases h1 : (s.size : Int) < i
  · go_enter Try.func4, Try.ntmps4
    go_wp2_with (go_at_call 9; refine (zzBytesB _ _ _ hs).mono ?_; rintro e w' ⟨rfl, rfl⟩)
    go_ret
    exact ⟨rfl, Below.refl _ _⟩
  obtain ⟨n, rfl⟩ := Int.eq_ofNat_of_zero_le (by omega : 0 ≤ i)
  have hn : n ≤ s.size := by omega
  have hlen := Lib.size_eq s
  by_cases hr : Sq.contAt s.data.toList n = n
  · exact walkB_same s n w hs hn hr
  · obtain ⟨f1, f2, f3, f4, f5⟩ := Sq.cont_facts s.data.toList n (by rw [← hlen]; exact hn) hr
    obtain ⟨m, hm⟩ : ∃ m, Sq.contAt s.data.toList n = m + 1 := ⟨_, (Nat.succ_pred_eq_of_pos (by omega)).symm⟩
    rw [hm] at f1 f2 f3 f4 f5
    rw [← hlen] at f2
    have hlt : n < s.size := by omega
    have hms : m < s.size := by omega
    have hxl := Lib.data_getElem? s n hlt
    refine walkB_other s n m (s[n]'hlt) w hs hlt (by omega) hms rfl hm ?_ ?_ ?_ ?_ ?_ ?_
    · have := Lib.data_getElem? s m hms
      rw [show m + 1 - 1 = m from rfl, this] at f3
      exact Option.some.inj f3
    · rw [Hid, Lib.extract_data]; rw [show m + 1 - 1 - n = m - n from rfl] at f4; exact f4
    · rw [Hid, Lib.extract_data, List.drop_zero, Nat.sub_zero]; exact f5
    · rw [Hid, Lib.size_eq, Lib.extract_data, List.drop_zero, Nat.sub_zero, List.length_take, ← hlen]; omega
    · rw [Hid, Lib.size_eq, Lib.extract_data, List.length_take, List.length_drop, ← hlen]; omega
    · cases hg : Sq.isGap (s[n]'hlt) with
      | true => exact .inl rfl
      | false =>
        have h45 := Sq.gap_of _ _ _ hxl hr hg
        refine .inr ⟨rfl, ?_⟩
        have hb := Sq.byte_bne (s[n]'hlt) 45
        have : (s[n]'hlt) = 45 := by simpa using h45
        rw [this]; decide
end Go.Proofs.Qxb6603812a
