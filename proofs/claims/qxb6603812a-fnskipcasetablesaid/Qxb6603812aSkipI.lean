import Derived.Test.Qxb6603812aSkipH
namespace Go.Proofs.Qxb6603812a
open Go.RowKit

theorem bcell {W w1 : World} (hb : Below W.heap.size W w1) : (∀ b o, b < W.heap.size → w1.cell? ⟨b, o, none⟩ = W.cell? ⟨b, o, none⟩) ∧ (∀ b o, b < W.heap.size → w1.frozen? ⟨b, o, none⟩ = W.frozen? ⟨b, o, none⟩) :=
  ⟨fun b o h => hb.cell (p := ⟨b, o, none⟩) h, fun b o h => hb.frozen (p := ⟨b, o, none⟩) h⟩

set_option maxHeartbeats 400000 in
set_option maxRecDepth 100000 in
theorem zzSyntax_any (f : Sq.Fl) (w : World) :
    Calls Try.prog 22 #[.bool f.ps, .bool f.bs, .bool f.es, .bool f.dq, .bool f.bt, .bool f.hc, .bool f.sd, .bool f.nc, .bool f.ec] w fun e w' =>
      e = .returned (.agg #[.bool f.ps, .bool f.bs, .bool f.es, .bool f.dq, .bool f.bt, .bool f.hc, .bool f.sd, .bool f.nc, .bool f.ec, .map none]) ∧ Below w.heap.size w w' := by
  go_enter Try.func22, Try.ntmps22
  go_wp2
  exact bodyPost_ret (v := (.agg #[.bool f.ps, .bool f.bs, .bool f.es, .bool f.dq, .bool f.bt, .bool f.hc, .bool f.sd, .bool f.nc, .bool f.ec, .map none])) (by simp [results, Try.results22, go_sem]) rfl ⟨rfl, (Below.refl _ _).alloc (Nat.le_refl _) _⟩

set_option maxHeartbeats 400000 in
set_option maxRecDepth 100000 in
theorem makeSyntax_any (f : Sq.Fl) (w : World) :
    Calls Try.prog 14 #[.agg #[.bool f.ps, .bool f.bs, .bool f.es, .bool f.dq, .bool f.bt, .bool f.hc, .bool f.sd, .bool f.nc, .bool f.ec]] w fun e w' =>
      e = .returned (.agg #[.bool f.ps, .bool f.bs, .bool f.es, .bool f.dq, .bool f.bt, .bool f.hc, .bool f.sd, .bool f.nc, .bool f.ec, .map none]) ∧ Below w.heap.size w w' := by
  go_enter Try.func14, Try.ntmps14
  go_wp2_with fail
  refine (zzSyntax_any f _).mono ?_
  rintro e w1 ⟨rfl, hb1⟩
  obtain ⟨hcl, hfr⟩ := bcell hb1
  have hz : w.heap.size + 1 < w1.heap.size := by have := hb1.size; simp at this; omega
  go_wp2
  refine bodyPost_ret (v := (.agg #[.bool f.ps, .bool f.bs, .bool f.es, .bool f.dq, .bool f.bt, .bool f.hc, .bool f.sd, .bool f.nc, .bool f.ec, .map none])) (by simp [results, Try.results14, go_sem, hcl]) rfl ⟨rfl, ?_⟩
  have hb2 : Below w.heap.size w w1 := (((Below.refl w.heap.size w).alloc (Nat.le_refl _) _).alloc (by simp) _).trans (hb1.mono (by simp; omega))
  clear hb1 hcl hfr
  iterate 10 (refine Below.setCell ?_ (by simp) _)
  exact hb2

set_option maxHeartbeats 400000 in
set_option maxRecDepth 100000 in
theorem zzSkip_any (f : Sq.Fl) (s : ByteArray) (i : Int) (m : Int) (w : World) (hs : s.size ≤ 1048577) (h0 : 0 ≤ i) (hi : i < s.size)
    (hmz : 0 < w.heap.size) (hm : w.cell? ⟨0, 0, none⟩ = some (.int .i64 m)) :
    Calls Try.prog 13 #[(.agg #[.bool f.ps, .bool f.bs, .bool f.es, .bool f.dq, .bool f.bt, .bool f.hc, .bool f.sd, .bool f.nc, .bool f.ec, .map none]), .string s, .int .i64 i] w fun e w' =>
      e = .returned (.int .i64 ((i.toNat + Sq.skp f (Sq.fwAt s.data.toList i.toNat) (s.data.toList.drop i.toNat) : Nat) : Int)) ∧ Below w.heap.size w w' := by
  obtain ⟨n, rfl⟩ := Int.eq_ofNat_of_zero_le h0
  rw [Int.toNat_natCast]
  have HM : Hid (∀ o, (w.alloc o).cell? ⟨0, 0, none⟩ = some (.int .i64 m)) := fun o => by
    rw [Below.cell ((Below.refl w.heap.size w).alloc (Nat.le_refl _) o) hmz]; exact hm
  clear hm
  go_enter Try.func13, Try.ntmps13
  go_wp2_with (go_at_call 21; refine (skip_any f _ _ m _ hs (by omega) (by simp) (HM.out _)).mono ?_; rintro e w1 ⟨rfl, hb1⟩)
  go_ret
  exact ⟨rfl, ((Below.refl _ _).alloc (Nat.le_refl _) _).trans (hb1.mono (by simp))⟩
end Go.Proofs.Qxb6603812a
