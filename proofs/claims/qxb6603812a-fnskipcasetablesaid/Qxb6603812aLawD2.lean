import Derived.Test.Qxb6603812aLawD
namespace Go.Proofs.Qxb6603812a
open Go.RowKit

set_option maxHeartbeats 1000000 in
set_option maxRecDepth 100000 in
theorem walkD_zero (fv : Sq.Fl) (s : ByteArray) (i m : Int) (hi0 : 0 ≤ i) (hi1 : i ≤ 0) (w : World) (hs : s.size ≤ 1048576) (hi : 0 < s.size)
    (hmz : 0 < w.heap.size) (hm : w.cell? ⟨0, 0, none⟩ = some (.int .i64 m)) (r : Nat) (hr : Hid (Sq.skp fv false s.data.toList = r)) (hrb2 : r ≤ s.size) :
    Calls Try.prog 6 #[.agg #[.bool fv.ps, .bool fv.bs, .bool fv.es, .bool fv.dq, .bool fv.bt, .bool fv.hc, .bool fv.sd, .bool fv.nc, .bool fv.ec], .string s, .int .i64 i] w fun e w' => e = .returned (.bool true) ∧ Below w.heap.size w w' := by
  have HM : Hid (w.cell? ⟨0, 0, none⟩ = some (.int .i64 m)) := hm
  clear hm
  have hie : (i == 0) = true := beq_iff_eq.2 (by omega)
  go_enter Try.func6, Try.ntmps6
  go_wp2_with fail
  refine (zzBytesD fv _ _ _ hs).mono ?_
  rintro e w1 ⟨rfl, hb1⟩
  obtain ⟨hc1, hf1⟩ := bcell hb1
  have hz1 : w.heap.size < w1.heap.size := by have := hb1.size; simp at this; omega
  have HB1 : Hid (Below w.heap.size w w1) := ((Below.refl _ _).alloc (Nat.le_refl _) _).trans (hb1.mono (by simp))
  clear hb1
  go_wp2_with fail
  refine (makeSyntax_any fv _).mono ?_
  rintro e w2 ⟨rfl, hb2⟩
  have HB2 : Hid (Below w1.heap.size w1 w2) := hb2
  have hz2 : w1.heap.size ≤ w2.heap.size := hb2.size
  clear hc1 hf1 hb2
  go_wp2_with fail
  have HB3 : Hid (Below w.heap.size w w2) := HB1.out.trans (HB2.out.mono (by omega))
  have HC : Hid (∀ o, (w2.alloc o).cell? ⟨0, 0, none⟩ = some (.int .i64 m)) := fun o => by
    rw [Below.cell ((Below.refl w2.heap.size w2).alloc (Nat.le_refl _) o) (by show 0 < w2.heap.size; omega)]; exact cell0 HB3.out hmz HM.out
  refine (zzSkip_any fv _ _ m _ (by omega) (by omega) (by omega) (by simp) (HC.out _)).mono ?_
  rintro e w3 ⟨rfl, hb3⟩
  have hV : ((i.toNat + Sq.skp fv (Sq.fwAt s.data.toList i.toNat) (s.data.toList.drop i.toNat) : Nat) : Int) = (r : Int) := by
    rw [show i.toNat = 0 from by omega, List.drop_zero, show Sq.fwAt s.data.toList 0 = false from rfl, hr.out, Nat.zero_add]
  rw [hV]
  clear hV
  obtain ⟨hc3, hf3⟩ := bcell hb3
  have hz3 : w2.heap.size < w3.heap.size := by have := hb3.size; simp at this; omega
  have HB4 : Hid (Below w.heap.size w w3) := HB3.out.trans (((Below.refl w.heap.size w2).alloc (by omega) _).trans (hb3.mono (by simp; omega)))
  clear hb3 HB2 HC
  go_wp2_with fail
  have hL : ((⟨#[32]⟩ : ByteArray) ++ s).data.toList = 32 :: s.data.toList := by
    rw [ByteArray.data_append]; simp
  have hZ : ((⟨#[32]⟩ : ByteArray) ++ s).size = s.size + 1 := by
    rw [Lib.size_eq, hL, List.length_cons, ← Lib.size_eq]
  have hm3 : w3.cell? ⟨0, 0, none⟩ = some (.int .i64 m) := cell0 HB4.out hmz HM.out
  refine (zzSkip_any fv _ _ m _ (by rw [hZ]; omega) (by omega) (by rw [hZ]; omega) (by omega) hm3).mono ?_
  rintro e w4 ⟨rfl, hb4⟩
  have hV : (((1 : Int).toNat + Sq.skp fv (Sq.fwAt ((⟨#[32]⟩ : ByteArray) ++ s).data.toList (1 : Int).toNat) (((⟨#[32]⟩ : ByteArray) ++ s).data.toList.drop (1 : Int).toNat) : Nat) : Int) = (r : Int) + 1 := by
    rw [hL, show (1 : Int).toNat = 1 from rfl, List.drop_succ_cons, List.drop_zero, show Sq.fwAt (32 :: s.data.toList) 1 = false from rfl, hr.out]
    omega
  rw [hV]
  clear hV hL hZ hm3
  have heq : ((r : Int) + 1 == (r : Int) + 1) = true := beq_iff_eq.2 rfl
  go_wp2
  go_ret
  exact ⟨rfl, HB4.out.trans (hb4.mono HB4.out.size)⟩

theorem walkD (fv : Sq.Fl) (s : ByteArray) (i : Int) (m : Int) (w : World) (hmz : 0 < w.heap.size) (hm : w.cell? ⟨0, 0, none⟩ = some (.int .i64 m)) :
    Calls Try.prog 6 #[.agg #[.bool fv.ps, .bool fv.bs, .bool fv.es, .bool fv.dq, .bool fv.bt, .bool fv.hc, .bool fv.sd, .bool fv.nc, .bool fv.ec], .string s, .int .i64 i] w fun e w' => e = .returned (.bool true) ∧ Below w.heap.size w w' := by
  by_cases hs : ¬ s.size ≤ 1048576
  · clear hm hmz
    go_enter Try.func6, Try.ntmps6
    go_wp2_with fail
    refine (zzBytesD_no fv _ _ _ hs).mono ?_
    rintro e w1 ⟨rfl, hb1⟩
    go_wp2
    go_ret
    exact ⟨rfl, ((Below.refl _ _).alloc (Nat.le_refl _) _).trans (hb1.mono (by simp))⟩
  have hs : s.size ≤ 1048576 := by omega
  by_cases h0 : i < 0
  · clear hm hmz
    go_enter Try.func6, Try.ntmps6
    go_wp2_with fail
    refine (zzBytesD fv _ _ _ hs).mono ?_
    rintro e w1 ⟨rfl, hb1⟩
    go_wp2
    go_ret
    exact ⟨rfl, ((Below.refl _ _).alloc (Nat.le_refl _) _).trans (hb1.mono (by simp))⟩
  by_cases h1 : (s.size : Int) ≤ i
  · clear hm hmz
    go_enter Try.func6, Try.ntmps6
    go_wp2_with fail
    refine (zzBytesD fv _ _ _ hs).mono ?_
    rintro e w1 ⟨rfl, hb1⟩
    go_wp2
    go_ret
    exact ⟨rfl, ((Below.refl _ _).alloc (Nat.le_refl _) _).trans (hb1.mono (by simp))⟩
  obtain ⟨n, rfl⟩ := Int.eq_ofNat_of_zero_le (by omega : 0 ≤ i)
  have hlen := Lib.size_eq s
  have hb := Sq.skp_le fv (Sq.fwAt s.data.toList n) (s.data.toList.drop n) (by
    intro h
    have := congrArg List.length h
    rw [List.length_drop, ← hlen] at this
    simp at this; omega)
  rw [List.length_drop, ← hlen] at hb
  cases n with
  | zero => exact walkD_zero fv s _ m (by simp) (by simp) w hs (by omega) hmz hm _ rfl (by rw [show Sq.fwAt s.data.toList 0 = false from rfl, List.drop_zero] at hb; omega)
  | succ k => exact walkD_pos fv s k m w hs (by omega) hmz hm _ rfl (by omega) (by omega)
end Go.Proofs.Qxb6603812a
