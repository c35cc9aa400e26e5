import Derived.Test.Qxb6603812aSkipJ
import Derived.Deep.RegionHeld3
import Derived.Deep.DrawnRows
namespace Go.Proofs.Qxb6603812a
open Go.RowKit
attribute [local go_sem ↓] Go.wp_at_zero Go.wp_at_succ

theorem cell0 {w w' : World} {m : Int} (hb : Below w.heap.size w w') (hmz : 0 < w.heap.size) (hm : w.cell? ⟨0, 0, none⟩ = some (.int .i64 m)) : w'.cell? ⟨0, 0, none⟩ = some (.int .i64 m) := by
  rw [hb.cell (p := ⟨0, 0, none⟩) hmz]; exact hm

set_option maxHeartbeats 400000 in
theorem zzBytesD (fv : Sq.Fl) (s : ByteArray) (i : Int) (w : World) (hs : s.size ≤ 1048576) :
    Calls Try.prog 19 #[.agg #[.bool fv.ps, .bool fv.bs, .bool fv.es, .bool fv.dq, .bool fv.bt, .bool fv.hc, .bool fv.sd, .bool fv.nc, .bool fv.ec], .string s, .int .i64 i] w fun e w' => e = .returned (.bool true) ∧ Below w.heap.size w w' := by
  go_enter Try.func19, Try.ntmps19
  go_wp2
  go_ret
  exact ⟨rfl, (Below.refl _ _).alloc (Nat.le_refl _) _⟩

set_option maxHeartbeats 400000 in
theorem zzBytesD_no (fv : Sq.Fl) (s : ByteArray) (i : Int) (w : World) (hs : ¬ s.size ≤ 1048576) :
    Calls Try.prog 19 #[.agg #[.bool fv.ps, .bool fv.bs, .bool fv.es, .bool fv.dq, .bool fv.bt, .bool fv.hc, .bool fv.sd, .bool fv.nc, .bool fv.ec], .string s, .int .i64 i] w fun e w' => e = .returned (.bool false) ∧ Below w.heap.size w w' := by
  go_enter Try.func19, Try.ntmps19
  go_wp2
  go_ret
  exact ⟨rfl, (Below.refl _ _).alloc (Nat.le_refl _) _⟩


/-- ZZSkip beside a syntax that lies in a block of the caller's own. -/
theorem zzSkip_S (fv : Sq.Fl) (s : ByteArray) (i : Int) (B : Nat) (m : Int) (w0 w : World) (hs : s.size ≤ 1048577) (h0 : 0 ≤ i) (hi : i < s.size) (hmz : 0 < w0.heap.size)
    (hS : w.cell? ⟨B, 0, none⟩ = some (.bool fv.ps) ∧ w.cell? ⟨B, 1, none⟩ = some (.bool fv.bs) ∧ w.cell? ⟨B, 2, none⟩ = some (.bool fv.es) ∧ w.cell? ⟨B, 3, none⟩ = some (.bool fv.dq) ∧ w.cell? ⟨B, 4, none⟩ = some (.bool fv.bt) ∧ w.cell? ⟨B, 5, none⟩ = some (.bool fv.hc) ∧ w.cell? ⟨B, 6, none⟩ = some (.bool fv.sd) ∧ w.cell? ⟨B, 7, none⟩ = some (.bool fv.nc) ∧ w.cell? ⟨B, 8, none⟩ = some (.bool fv.ec) ∧ w.cell? ⟨B, 9, none⟩ = some (.map none) ∧ w.cell? ⟨0, 0, none⟩ = some (.int .i64 m) ∧ Below w0.heap.size w0 w ∧ w0.heap.size ≤ B ∧ B < w.heap.size) :
    Calls Try.prog 13 #[(.agg #[.bool fv.ps, .bool fv.bs, .bool fv.es, .bool fv.dq, .bool fv.bt, .bool fv.hc, .bool fv.sd, .bool fv.nc, .bool fv.ec, .map none]), .string s, .int .i64 i] w fun e w' =>
      e = .returned (.int .i64 ((i.toNat + Sq.skp fv (Sq.fwAt s.data.toList i.toNat) (s.data.toList.drop i.toNat) : Nat) : Int)) ∧ (w'.cell? ⟨B, 0, none⟩ = some (.bool fv.ps) ∧ w'.cell? ⟨B, 1, none⟩ = some (.bool fv.bs) ∧ w'.cell? ⟨B, 2, none⟩ = some (.bool fv.es) ∧ w'.cell? ⟨B, 3, none⟩ = some (.bool fv.dq) ∧ w'.cell? ⟨B, 4, none⟩ = some (.bool fv.bt) ∧ w'.cell? ⟨B, 5, none⟩ = some (.bool fv.hc) ∧ w'.cell? ⟨B, 6, none⟩ = some (.bool fv.sd) ∧ w'.cell? ⟨B, 7, none⟩ = some (.bool fv.nc) ∧ w'.cell? ⟨B, 8, none⟩ = some (.bool fv.ec) ∧ w'.cell? ⟨B, 9, none⟩ = some (.map none) ∧ w'.cell? ⟨0, 0, none⟩ = some (.int .i64 m) ∧ Below w0.heap.size w0 w' ∧ w0.heap.size ≤ B ∧ B < w'.heap.size) := by
  obtain ⟨c0, c1, c2, c3, c4, c5, c6, c7, c8, c9, cm, hb, hle, hlt⟩ := hS
  refine (zzSkip_any fv s i m w hs h0 hi (by omega) cm).mono ?_
  rintro e w' ⟨rfl, hb'⟩
  have k := fun o => hb'.cell (p := ⟨B, o, none⟩) hlt
  have hsz := hb'.size
  refine ⟨rfl, ?_, ?_, ?_, ?_, ?_, ?_, ?_, ?_, ?_, ?_, ?_, hb.trans (hb'.mono (by omega)), hle, by omega⟩
  · rw [k 0]; exact c0
  · rw [k 1]; exact c1
  · rw [k 2]; exact c2
  · rw [k 3]; exact c3
  · rw [k 4]; exact c4
  · rw [k 5]; exact c5
  · rw [k 6]; exact c6
  · rw [k 7]; exact c7
  · rw [k 8]; exact c8
  · rw [k 9]; exact c9
  · rw [hb'.cell (p := ⟨0, 0, none⟩) (by show 0 < w.heap.size; omega)]; exact cm

set_option maxHeartbeats 1000000 in
set_option maxRecDepth 100000 in
theorem walkD_pos (fv : Sq.Fl) (s : ByteArray) (k : Nat) (m : Int) (w : World) (hs : s.size ≤ 1048576) (hi : k + 1 < s.size)
    (hmz : 0 < w.heap.size) (hm : w.cell? ⟨0, 0, none⟩ = some (.int .i64 m)) (r : Nat) (hr : Hid (k + 1 + Sq.skp fv (Sq.fwAt s.data.toList (k + 1)) (s.data.toList.drop (k + 1)) = r)) (hrb : k + 1 ≤ r) (hrb2 : r ≤ s.size) :
    Calls Try.prog 6 #[.agg #[.bool fv.ps, .bool fv.bs, .bool fv.es, .bool fv.dq, .bool fv.bt, .bool fv.hc, .bool fv.sd, .bool fv.nc, .bool fv.ec], .string s, .int .i64 ((k : Int) + 1)] w fun e w' => e = .returned (.bool true) ∧ Below w.heap.size w w' := by
  have HM : Hid (w.cell? ⟨0, 0, none⟩ = some (.int .i64 m)) := hm
  clear hm
  have hk0 : ((k : Int) + 1 == 0) = false := beq_eq_false_iff_ne.2 (by omega)
  go_enter Try.func6, Try.ntmps6
  go_wp2_with fail
  refine (zzBytesD fv _ _ _ hs).mono ?_
  rintro e w1 ⟨rfl, hb1⟩
  obtain ⟨hc1, hf1⟩ := bcell hb1
  have hz1 : w.heap.size < w1.heap.size := by have := hb1.size; simp at this; omega
  have HB1 : Hid (Below w.heap.size w w1) := ((Below.refl _ _).alloc (Nat.le_refl _) _).trans (hb1.mono (by simp))
  clear hb1
  go_wp2_with fail
  refine (makeSyntax_any fv _).mono ?_
  rintro e w2 ⟨rfl, hb2⟩
  have HB2 : Hid (Below w1.heap.size w1 w2) := hb2
  have hz2 : w1.heap.size ≤ w2.heap.size := hb2.size
  clear hc1 hf1 hb2
  go_wp2_with fail
  have HB3 : Hid (Below w.heap.size w w2) := HB1.out.trans (HB2.out.mono (by omega))
  have HC : Hid (∀ o, (w2.alloc o).cell? ⟨0, 0, none⟩ = some (.int .i64 m)) := fun o => by
    rw [Below.cell ((Below.refl w2.heap.size w2).alloc (Nat.le_refl _) o) (by show 0 < w2.heap.size; omega)]; exact cell0 HB3.out hmz HM.out
  refine (zzSkip_any fv _ _ m _ (by omega) (by omega) (by omega) (by simp) (HC.out _)).mono ?_
  rintro e w3 ⟨rfl, hb3⟩
  rw [show ((k : Int) + 1).toNat = k + 1 from by omega, hr.out]
  obtain ⟨hc3, hf3⟩ := bcell hb3
  have hz3 : w2.heap.size < w3.heap.size := by have := hb3.size; simp at this; omega
  have HB4 : Hid (Below w.heap.size w w3) := HB3.out.trans (((Below.refl w.heap.size w2).alloc (by omega) _).trans (hb3.mono (by simp; omega)))
  have q0 := hc3 w2.heap.size 0 (by simp)
  have q1 := hc3 w2.heap.size 1 (by simp)
  have q2 := hc3 w2.heap.size 2 (by simp)
  have q3 := hc3 w2.heap.size 3 (by simp)
  have q4 := hc3 w2.heap.size 4 (by simp)
  have q5 := hc3 w2.heap.size 5 (by simp)
  have q6 := hc3 w2.heap.size 6 (by simp)
  have q7 := hc3 w2.heap.size 7 (by simp)
  have q8 := hc3 w2.heap.size 8 (by simp)
  have q9 := hc3 w2.heap.size 9 (by simp)
  simp at q0 q1 q2 q3 q4 q5 q6 q7 q8 q9
  clear hb3 hc3 hf3 HB2 HC
  go_wp2_with fail
  have hc0 : w3.cell? ⟨0, 0, none⟩ = some (.int .i64 m) := cell0 HB4.out hmz HM.out
  have hbb : Below w.heap.size w w3 := HB4.out
  have hlew : w.heap.size ≤ w2.heap.size := by omega
  have hx1 : (0 : Int) ≤ (k : Int) := by omega
  have hx2 : (k : Int) ≤ (s.size : Int) := by omega
  have hwk : IntKind.i64.wrap (k : Int) = (k : Int) := wrap_small _ (by omega) (by omega)
  have hwr : IntKind.i64.wrap ((r : Int) - (k : Int)) = (r : Int) - (k : Int) := wrap_small _ (by omega) (by omega)
  have Hz1 : Hid ((s.extract k s.size).size ≤ 1048577) := by rw [Hid, Lib.size_eq, Lib.extract_to_end, List.length_drop, ← Lib.size_eq]; omega
  have Hz2 : Hid ((1 : Int) < (s.extract k s.size).size) := by rw [Hid, Lib.size_eq, Lib.extract_to_end, List.length_drop, ← Lib.size_eq]; omega
  have hlD := Sq.fwAt_drop s.data.toList k
  have HV1 : Hid ((((1 : Int).toNat + Sq.skp fv (Sq.fwAt (s.extract k s.size).data.toList (1 : Int).toNat) ((s.extract k s.size).data.toList.drop (1 : Int).toNat) : Nat) : Int) = (r : Int) - (k : Int)) := by
    have h := hr.out
    rw [Hid, Lib.extract_to_end, show (1 : Int).toNat = 1 from rfl, hlD, List.drop_drop]
    omega
  have hne1 : ((r : Int) - (k : Int) != (r : Int) - (k : Int)) = false := by simp
  have hlt : k < s.size := by omega
  obtain ⟨x, hx⟩ : ∃ x : UInt8, s[k]'hlt = x := ⟨_, rfl⟩
  have Hx : Hid (s.data.toList[k]? = some x) := by rw [← hx]; exact Lib.data_getElem? s k hlt
  clear HB1 HB3 HB4 hlD
  go_region_held3 (fun wx => wx.cell? ⟨w2.heap.size, 0, none⟩ = some (.bool fv.ps) ∧ wx.cell? ⟨w2.heap.size, 1, none⟩ = some (.bool fv.bs) ∧ wx.cell? ⟨w2.heap.size, 2, none⟩ = some (.bool fv.es) ∧ wx.cell? ⟨w2.heap.size, 3, none⟩ = some (.bool fv.dq) ∧ wx.cell? ⟨w2.heap.size, 4, none⟩ = some (.bool fv.bt) ∧ wx.cell? ⟨w2.heap.size, 5, none⟩ = some (.bool fv.hc) ∧ wx.cell? ⟨w2.heap.size, 6, none⟩ = some (.bool fv.sd) ∧ wx.cell? ⟨w2.heap.size, 7, none⟩ = some (.bool fv.nc) ∧ wx.cell? ⟨w2.heap.size, 8, none⟩ = some (.bool fv.ec) ∧ wx.cell? ⟨w2.heap.size, 9, none⟩ = some (.map none) ∧ wx.cell? ⟨0, 0, none⟩ = some (.int .i64 m) ∧ Below w.heap.size w wx ∧ w.heap.size ≤ w2.heap.size ∧ w2.heap.size < wx.heap.size) (refine ⟨?_, ?_, ?_, ?_, ?_, ?_, ?_, ?_, ?_, ?_, ?_, ?_, ?_, ?_⟩ <;> first | assumption | exact Below.drew (by assumption) | go_keep)
    (first
      | (go_at_call 13; refine (zzSkip_S fv _ _ w2.heap.size m w _ Hz1.out (by decide) Hz2.out hmz (by assumption)).mono ?_; rintro e1 w4 ⟨rfl, hS4⟩; rw [HV1.out]; obtain ⟨t0, t1, t2, t3, t4, t5, t6, t7, t8, t9, tm, tb, tl, tt⟩ := hS4))
  cases hwd : Sq.isWord x with
  | true =>
    go_wp2_with (go_at_call 15; refine (isWordByte_any x _).mono ?_; rintro e w5 ⟨rfl, rfl⟩; rw [hwd])
    go_ret
    exact ⟨rfl, tb⟩
  | false =>
    have HV2 : Hid ((((0 : Int).toNat + Sq.skp fv (Sq.fwAt (s.extract (k + 1) s.size).data.toList (0 : Int).toNat) ((s.extract (k + 1) s.size).data.toList.drop (0 : Int).toNat) : Nat) : Int) = (r : Int) - ((k : Int) + 1)) := by
      have h := hr.out
      have hf : Sq.fwAt s.data.toList (k + 1) = false := by rw [Sq.fwAt, Hx.out]; exact hwd
      rw [hf] at h
      rw [Hid, Lib.extract_to_end, show (0 : Int).toNat = 0 from rfl, List.drop_zero, show Sq.fwAt (s.data.toList.drop (k + 1)) 0 = false from rfl]
      omega
    have Hz3 : Hid ((s.extract (k + 1) s.size).size ≤ 1048577) := by rw [Hid, Lib.size_eq, Lib.extract_to_end, List.length_drop, ← Lib.size_eq]; omega
    have Hz4 : Hid ((0 : Int) < (s.extract (k + 1) s.size).size) := by rw [Hid, Lib.size_eq, Lib.extract_to_end, List.length_drop, ← Lib.size_eq]; omega
    have hy1 : (0 : Int) ≤ (k : Int) + 1 := by omega
    have hy2 : (k : Int) + 1 ≤ (s.size : Int) := by omega
    have hwr2 : IntKind.i64.wrap ((r : Int) - ((k : Int) + 1)) = (r : Int) - ((k : Int) + 1) := wrap_small _ (by omega) (by omega)
    have heq2 : ((r : Int) - ((k : Int) + 1) == (r : Int) - ((k : Int) + 1)) = true := beq_iff_eq.2 rfl
    clear q0 q1 q2 q3 q4 q5 q6 q7 q8 q9 hc0 hbb hwr hne1
    go_wp2_with (go_at_call 15; refine (isWordByte_any x _).mono ?_; rintro e w5 ⟨rfl, rfl⟩; rw [hwd])
    go_region_held3 (fun wx => wx.cell? ⟨w2.heap.size, 0, none⟩ = some (.bool fv.ps) ∧ wx.cell? ⟨w2.heap.size, 1, none⟩ = some (.bool fv.bs) ∧ wx.cell? ⟨w2.heap.size, 2, none⟩ = some (.bool fv.es) ∧ wx.cell? ⟨w2.heap.size, 3, none⟩ = some (.bool fv.dq) ∧ wx.cell? ⟨w2.heap.size, 4, none⟩ = some (.bool fv.bt) ∧ wx.cell? ⟨w2.heap.size, 5, none⟩ = some (.bool fv.hc) ∧ wx.cell? ⟨w2.heap.size, 6, none⟩ = some (.bool fv.sd) ∧ wx.cell? ⟨w2.heap.size, 7, none⟩ = some (.bool fv.nc) ∧ wx.cell? ⟨w2.heap.size, 8, none⟩ = some (.bool fv.ec) ∧ wx.cell? ⟨w2.heap.size, 9, none⟩ = some (.map none) ∧ wx.cell? ⟨0, 0, none⟩ = some (.int .i64 m) ∧ Below w.heap.size w wx ∧ w.heap.size ≤ w2.heap.size ∧ w2.heap.size < wx.heap.size) (refine ⟨?_, ?_, ?_, ?_, ?_, ?_, ?_, ?_, ?_, ?_, ?_, ?_, ?_, ?_⟩ <;> first | assumption | exact Below.drew (by assumption) | go_keep)
      (first
        | (go_at_call 13; refine (zzSkip_S fv _ _ w2.heap.size m w _ Hz3.out (by decide) Hz4.out hmz (by assumption)).mono ?_; rintro e1 w6 ⟨rfl, hS6⟩; rw [HV2.out]; obtain ⟨v0, v1, v2, v3, v4, v5, v6, v7, v8, v9, vm, vb, vl, vt⟩ := hS6))
    go_wp2
    go_ret
    exact ⟨rfl, vb⟩
end Go.Proofs.Qxb6603812a
