import Derived.Test.Qxb6603812aCont
namespace Go.Proofs.Qxb6603812a
open Go.RowKit

set_option maxHeartbeats 400000 in
theorem zzCont (s : ByteArray) (i : Int) (w : World) (hs : s.size ≤ 1048577) (h0 : 0 ≤ i) (hi : i ≤ s.size) :
    Calls Try.prog 8 #[.string s, .int .i64 i] w fun e w' => e = .returned (.int .i64 (Sq.contAt s.data.toList i.toNat)) ∧ Below w.heap.size w w' := by
  obtain ⟨n, rfl⟩ := Int.eq_ofNat_of_zero_le h0
  rw [Int.toNat_natCast]
  go_enter Try.func8, Try.ntmps8
  go_wp2_with (go_at_call 20; refine (continuation_any _ _ _ hs (by omega)).mono ?_; rintro e w' ⟨rfl, hb⟩)
  go_ret
  exact ⟨rfl, hb⟩

set_option maxHeartbeats 400000 in
theorem zzBytesA (s : ByteArray) (i : Int) (w : World) (hs : s.size ≤ 1048576) :
    Calls Try.prog 7 #[.string s, .int .i64 i] w fun e w' => e = .returned (.bool true) ∧ w' = w := by
  go_enter Try.func7, Try.ntmps7
  go_wp2
  go_ret
  exact ⟨rfl, rfl⟩

set_option maxHeartbeats 400000 in
theorem zzBytesA_no (s : ByteArray) (i : Int) (w : World) (hs : ¬ s.size ≤ 1048576) :
    Calls Try.prog 7 #[.string s, .int .i64 i] w fun e w' => e = .returned (.bool false) ∧ w' = w := by
  go_enter Try.func7, Try.ntmps7
  go_wp2
  go_ret
  exact ⟨rfl, rfl⟩

set_option maxHeartbeats 400000 in
theorem walkA (s : ByteArray) (i : Int) (w : World) :
    Calls Try.prog 3 #[.string s, .int .i64 i] w fun e w' => e = .returned (.bool true) ∧ Below w.heap.size w w' := by
  by_cases hs : ¬ s.size ≤ 1048576
  · go_enter Try.func3, Try.ntmps3
    go_wp2_with (go_at_call 7; refine (zzBytesA_no _ _ _ hs).mono ?_; rintro e w' ⟨rfl, rfl⟩)
    go_ret
    exact ⟨rfl, Below.refl _ _⟩
  have hs : s.size ≤ 1048576 := by omega
  by_cases h0 : i < 0
  · go_enter Try.func3, Try.ntmps3
    go_wp2_with (go_at_call 7; refine (zzBytesA _ _ _ hs).mono ?_; rintro e w' ⟨rfl, rfl⟩)
    go_ret
    exact ⟨rfl, Below.refl _ _⟩
  by_cases h1 : (s.size : Int) < i
  · go_enter Try.func3, Try.ntmps3
    go_wp2_with (go_at_call 7; refine (zzBytesA _ _ _ hs).mono ?_; rintro e w' ⟨rfl, rfl⟩)
    go_ret
    exact ⟨rfl, Below.refl _ _⟩
  obtain ⟨n, rfl⟩ := Int.eq_ofNat_of_zero_le (by omega : 0 ≤ i)
  have hn : n ≤ s.size := by omega
  have hb := Sq.contAt_le s.data.toList n (by rw [← Lib.size_eq]; exact hn)
  rw [← Lib.size_eq] at hb
  have hd := Sq.contAt_drop s.data.toList n
  rw [← Lib.extract_to_end] at hd
  have hz : (s.extract n s.size).size ≤ 1048577 := by rw [Lib.size_eq, Lib.extract_to_end, List.length_drop, ← Lib.size_eq]; omega
  have Hz : Hid ((s.extract n s.size).size ≤ 1048577) := hz
  have HD : Hid (Sq.contAt (s.extract n s.size).data.toList 0 + n = Sq.contAt s.data.toList n) := hd
  clear hd hz h0 h1
  go_enter Try.func3, Try.ntmps3
  go_wp2_with (go_at_call 7; refine (zzBytesA _ _ _ hs).mono ?_; rintro e w' ⟨rfl, rfl⟩)
  refine (zzCont _ _ _ (by omega) (by omega) (by omega)).mono ?_
  rintro e1 w1 ⟨rfl, hb1⟩
  rw [Int.toNat_natCast]
  go_wp2_with fail
  refine (zzCont _ 0 _ Hz.out (by omega) (by omega)).mono ?_
  rintro e2 w2 ⟨rfl, hb2⟩
  have hE : ((Sq.contAt (s.extract n s.size).data.toList (0 : Int).toNat : Nat) : Int) = ((Sq.contAt s.data.toList n : Nat) : Int) - (n : Int) := by
    have := HD.out
    show ((Sq.contAt (s.extract n s.size).data.toList 0 : Nat) : Int) = _
    omega
  rw [hE]
  clear hE
  have hE : (((Sq.contAt s.data.toList n : Nat) : Int) - (n : Int) == ((Sq.contAt s.data.toList n : Nat) : Int) - (n : Int)) = true := beq_iff_eq.2 rfl
  go_wp2
  go_ret
  exact ⟨rfl, hb1.trans (hb2.mono hb1.size)⟩
end Go.Proofs.Qxb6603812a
