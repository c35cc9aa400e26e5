import Derived.Test.Qxb6603812aLawC2
namespace Go.Proofs.Qxb6603812a
open Go.RowKit

set_option maxHeartbeats 1000000 in
set_option maxRecDepth 100000 in
theorem walkC (fv : Sq.Fl) (s : ByteArray) (i : Int) (m : Int) (w : World) (hmz : 0 < w.heap.size) (hm : w.cell? ⟨0, 0, none⟩ = some (.int .i64 m)) :
    Calls Try.prog 5 #[.agg #[.bool fv.ps, .bool fv.bs, .bool fv.es, .bool fv.dq, .bool fv.bt, .bool fv.hc, .bool fv.sd, .bool fv.nc, .bool fv.ec], .string s, .int .i64 i] w fun e w' => e = .returned (.bool true) ∧ Below w.heap.size w w' := by
  by_cases hs : ¬ s.size ≤ 1048576
  · clear hm hmz
    go_enter Try.func5, Try.ntmps5
    go_wp2_with fail
    refine (zzBytesC_no fv _ _ _ hs).mono ?_
    rintro e w1 ⟨rfl, hb1⟩
    go_wp2
    go_ret
    exact ⟨rfl, ((Below.refl _ _).alloc (Nat.le_refl _) _).trans (hb1.mono (by simp))⟩
  have hs : s.size ≤ 1048576 := by omega
  by_cases h0 : i < 0
  · clear hm hmz
    go_enter Try.func5, Try.ntmps5
    go_wp2_with fail
    refine (zzBytesC fv _ _ _ hs).mono ?_
    rintro e w1 ⟨rfl, hb1⟩
    go_wp2
    go_ret
    exact ⟨rfl, ((Below.refl _ _).alloc (Nat.le_refl _) _).trans (hb1.mono (by simp))⟩
  by_cases h1 : (s.size : Int) ≤ i
  · clear hm hmz
    go_enter Try.func5, Try.ntmps5
    go_wp2_with fail
    refine (zzBytesC fv _ _ _ hs).mono ?_
    rintro e w1 ⟨rfl, hb1⟩
    go_wp2
    go_ret
    exact ⟨rfl, ((Below.refl _ _).alloc (Nat.le_refl _) _).trans (hb1.mono (by simp))⟩
  obtain ⟨n, rfl⟩ := Int.eq_ofNat_of_zero_le (by omega : 0 ≤ i)
  have hlen := Lib.size_eq s
  have hn : n < s.size := by omega
  have hdr := Sq.drop_at (Lib.data_getElem? s n hn)
  have hb := Sq.skp_le fv (Sq.fwAt s.data.toList n) (s[n] :: s.data.toList.drop (n + 1)) (by simp)
  rw [← hdr, List.length_drop, ← hlen, hdr] at hb
  exact walkC_in fv s n m w hs hn hmz hm _ _ s[n] _ _ _ rfl hdr rfl (by omega) (by omega) rfl rfl rfl
end Go.Proofs.Qxb6603812a
