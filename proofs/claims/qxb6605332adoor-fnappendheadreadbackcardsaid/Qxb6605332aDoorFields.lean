import Derived.Test.Qxb6605332aDoorClone
import Derived.Deep.RegionHeld3
import Derived.Deep.DrawnRows
namespace Go.Proofs.Qxb6605332aDoor
open Go.RowKit
attribute [local go_sem ↓] Go.wp_at_zero Go.wp_at_succ

theorem infoE (e : TypeId) (h : (Tryd.prog.info? e).map (fun i => (i.zero, i.size, i.bytes)) = some (some (.agg #[.string ⟨#[]⟩, .string ⟨#[]⟩]), 2, 32)) : ∃ i, Tryd.prog.info? e = some i ∧ i.zero = some (.agg #[.string ⟨#[]⟩, .string ⟨#[]⟩]) ∧ i.size = 2 ∧ i.bytes = 32 := by
  cases hi : Tryd.prog.info? e with
  | none => rw [hi] at h; cases h
  | some i =>
    rw [hi] at h
    simp only [Option.map_some, Option.some.injEq, Prod.mk.injEq] at h
    exact ⟨i, rfl, h.1, h.2.1, h.2.2⟩
theorem info29 : (Tryd.prog.info? 29).map (fun i => (i.zero, i.size, i.bytes)) = some (some (.agg #[.string ⟨#[]⟩, .string ⟨#[]⟩]), 2, 32) := by kernel_rfl
theorem info42 : (Tryd.prog.info? 42).map (fun i => (i.zero, i.size, i.bytes)) = some (some (.agg #[.string ⟨#[]⟩, .string ⟨#[]⟩]), 2, 32) := by kernel_rfl

def twoEmpty : Array Value := #[.string ⟨#[]⟩, .string ⟨#[]⟩]

theorem run_make_fields (t e : TypeId) (ht : Tryd.prog.underlying t = some (.slice e)) (h : (Tryd.prog.info? e).map (fun i => (i.zero, i.size, i.bytes)) = some (some (.agg #[.string ⟨#[]⟩, .string ⟨#[]⟩]), 2, 32)) (n : Nat) (hn : n ≤ 1048576) (w : World) :
    (Instr.makeSlice t (.int .i64 (n : Int)) (.int .i64 (n : Int))).run Tryd.prog w = .ok (.slice (some ⟨w.heap.size, 0, none⟩) n n) (w.alloc (.cells (madeCells twoEmpty (n * 2)) e)) := by
  obtain ⟨i, hi, hz, h2, h3⟩ := infoE e h
  have hr := run_make (P := Tryd.prog) w t e i _ ht hi hz .i64 .i64 (n : Int) (n : Int) (by omega) (Int.le_refl _) (by rw [h3]; omega) (by omega)
  rw [Int.toNat_natCast, h2] at hr
  exact hr

/-- Fields that came in. -/
def InF (w : World) (v : Value) (hs : List (ByteArray × ByteArray)) : Prop :=
  (v = .slice none 0 0 ∧ hs = []) ∨ ∃ x cap, v = .slice (some x) hs.length cap ∧ hs.length ≤ cap ∧ cap ≤ maxLen ∧ ∀ i p, hs[i]? = some p → w.cell? (x.add (i * 2)) = some (.string p.1) ∧ w.cell? (x.add (i * 2 + 1)) = some (.string p.2)

def ClF (w' : World) (H : Nat) (v : Value) (hs : List (ByteArray × ByteArray)) : Prop :=
  (v = .slice none 0 0 ∧ hs = []) ∨ (v = .slice (some ⟨H, 0, none⟩) hs.length hs.length ∧ H < w'.heap.size ∧ ∀ i p, hs[i]? = some p → w'.cell? ⟨H, i * 2, none⟩ = some (.string p.1) ∧ w'.cell? ⟨H, i * 2 + 1, none⟩ = some (.string p.2))

set_option maxHeartbeats 1000000 in
set_option maxRecDepth 100000 in
theorem cloneFields_any (w : World) (v : Value) (hs : List (ByteArray × ByteArray)) (hin : InF w v hs) (hlen : hs.length ≤ 1048576) :
    Calls Tryd.prog 11 #[v] w fun e w' => ∃ v', e = .returned v' ∧ ClF w' w.heap.size v' hs ∧ Below w.heap.size w w' := by
  have hnil := fun (wx : World) (a : Option Addr) (n c : Nat) => Lib.run_eql_slice_nil (P := Tryd.prog) wx 26 29 a n c 0 0 Tryd.underlying26
  rcases hin with ⟨rfl, rfl⟩ | ⟨⟨xb, xo, xs⟩, cap, rfl, hcl, hcm, hby⟩
  · go_enter Tryd.func11, Tryd.ntmps11
    go_wp2
    go_ret
    exact ⟨_, rfl, .inl ⟨rfl, rfl⟩, Below.refl _ _⟩
  · have HBY : Hid (∀ i p, hs[i]? = some p → w.cell? (Addr.add ⟨xb, xo, xs⟩ (i * 2)) = some (.string p.1) ∧ w.cell? (Addr.add ⟨xb, xo, xs⟩ (i * 2 + 1)) = some (.string p.2)) := hby
    clear hby
    unfold maxLen at hcm
    have hsp : hs.length = 0 ∨ xs = none := by
      rcases Nat.eq_zero_or_pos hs.length with h | h
      · exact .inl h
      · exact .inr (spot_none (HBY.out 0 hs[0] (List.getElem?_eq_getElem h)).1)
    have hmk := fun wx : World => run_make_fields 26 29 Tryd.underlying26 info29 hs.length hlen wx
    go_enter Tryd.func11, Tryd.ntmps11
    go_wp2
    clear hmk
    go_loopw [4] (fun a wx => ∃ k : Nat, k ≤ hs.length ∧ a = .int .i64 k ∧ Hid (∀ j, j < hs.length * 2 → ∃ u, wx.cell? ⟨w.heap.size, j, none⟩ = some u) ∧ Hid (∀ j, j < hs.length * 2 → wx.frozen? ⟨w.heap.size, j, none⟩ = false) ∧ Hid (∀ j p, j < k → hs[j]? = some p → wx.cell? ⟨w.heap.size, j * 2, none⟩ = some (.string p.1) ∧ wx.cell? ⟨w.heap.size, j * 2 + 1, none⟩ = some (.string p.2)) ∧ Hid (Below w.heap.size w wx) ∧ w.heap.size < wx.heap.size) (fun a _ => hs.length - (intOf a).toNat)
    case atStart =>
      refine ⟨0, by omega, rfl, fun j hj => ?_, fun j hj => ?_, fun j p hj => absurd hj (Nat.not_lt_zero _), (Below.refl _ _).alloc (Nat.le_refl _) _, by simp⟩
      · exact new_cell w _ 29 j (by rw [size_madeCells]; exact hj)
      · simp
    case round =>
      obtain ⟨k, hk, rfl, HX, HF, HC, HB, hz⟩ := hrel
      by_cases hlt : k < hs.length
      · have hsp' : xs = none := hsp.resolve_left (by omega)
        subst hsp'
        obtain ⟨u0, hu0⟩ := HX.out (k * 2) (by omega)
        obtain ⟨u1, hu1⟩ := HX.out (k * 2 + 1) (by omega)
        have hf0 := HF.out (k * 2) (by omega)
        have hf1 := HF.out (k * 2 + 1) (by omega)
        obtain ⟨⟨nm, vl⟩, hpr⟩ : ∃ pr, hs[k]? = some pr := ⟨_, List.getElem?_eq_getElem hlt⟩
        obtain ⟨s0, s1⟩ := HBY.out k _ hpr
        rw [Addr.add_lit] at s0 s1
        simp only at s0 s1
        have hxb : xb < w.heap.size := World.block_lt_of_cell? w ⟨xb, xo + k * 2, none⟩ s0
        have t0 : wr.cell? ⟨xb, xo + k * 2, none⟩ = some (.string nm) := by rw [HB.out.cell (p := ⟨xb, xo + k * 2, none⟩) hxb]; exact s0
        have t1 : wr.cell? ⟨xb, xo + k * 2 + 1, none⟩ = some (.string vl) := by rw [HB.out.cell (p := ⟨xb, xo + k * 2 + 1, none⟩) hxb]; exact s1
        have HPR : Hid (hs[k]? = some (nm, vl)) := hpr
        have hk1 : (0 : Int) ≤ (k : Int) := by omega
        have hk2 : (k : Int) < (hs.length : Int) := by omega
        have hne : w.heap.size ≠ xb := by omega
        clear hsp s0 s1 hpr
        go_wp2_with fail
        go_region_held3 (fun wx => wx.cell? ⟨xb, xo + k * 2, none⟩ = some (.string nm) ∧ wx.cell? ⟨xb, xo + k * 2 + 1, none⟩ = some (.string vl)) (first | go_keep | exact ⟨(set_other _ (.inl hne)).trans ((set_other _ (.inl hne)).trans t0), (set_other _ (.inl hne)).trans ((set_other _ (.inl hne)).trans t1)⟩) (fail)
        go_wp2
        go_roundw
        case rel => exact ⟨k + 1, by omega, by go_num, fun j hj => (by
            by_cases e1 : j = k * 2 + 1
            · subst e1
              exact ⟨_, set_same _ ((set_other _ (.inr (by omega))).trans hu1)⟩
            · by_cases e0 : j = k * 2
              · subst e0; exact ⟨_, (set_other _ (.inr (by omega))).trans (set_same _ hu0)⟩
              · obtain ⟨u', hu'⟩ := HX.out j hj
                exact ⟨u', (set_other _ (.inr (by omega))).trans ((set_other _ (.inr (by omega))).trans hu')⟩), fun j hj => (by simpa using HF.out j hj), fun j p hj hp => (by
            by_cases e : j = k
            · subst e
              rw [HPR.out] at hp
              cases hp
              exact ⟨(set_other _ (.inr (by omega))).trans (set_same _ hu0), set_same _ ((set_other _ (.inr (by omega))).trans hu1)⟩
            · obtain ⟨a, b⟩ := HC.out j p (by omega) hp
              exact ⟨(set_other _ (.inr (by omega))).trans ((set_other _ (.inr (by omega))).trans a), (set_other _ (.inr (by omega))).trans ((set_other _ (.inr (by omega))).trans b)⟩), (((HB.out.setCell (Nat.le_refl _) _).setCell (Nat.le_refl _) _).drew), by simpa using hz⟩
        case measure => simp [intOf]; omega
      · have hkn : k = hs.length := by omega
        clear hsp
        go_wp2
        go_ret
        exact ⟨_, rfl, .inr ⟨rfl, hz, fun j p hp => HC.out j p (by have := (List.getElem?_eq_some_iff.1 hp).1; omega) hp⟩, HB.out⟩

set_option maxHeartbeats 1000000 in
set_option maxRecDepth 100000 in
theorem fields_any (w : World) (v : Value) (hs : List (ByteArray × ByteArray)) (hin : InF w v hs) (hlen : hs.length ≤ 1048576) :
    Calls Tryd.prog 12 #[v] w fun e w' => ∃ v', e = .returned v' ∧ ClF w' w.heap.size v' hs ∧ Below w.heap.size w w' := by
  have hnil := fun (wx : World) (a : Option Addr) (n c : Nat) => Lib.run_eql_slice_nil (P := Tryd.prog) wx 26 29 a n c 0 0 Tryd.underlying26
  rcases hin with ⟨rfl, rfl⟩ | ⟨⟨xb, xo, xs⟩, cap, rfl, hcl, hcm, hby⟩
  · go_enter Tryd.func12, Tryd.ntmps12
    go_wp2
    go_ret
    exact ⟨_, rfl, .inl ⟨rfl, rfl⟩, Below.refl _ _⟩
  · have HBY : Hid (∀ i p, hs[i]? = some p → w.cell? (Addr.add ⟨xb, xo, xs⟩ (i * 2)) = some (.string p.1) ∧ w.cell? (Addr.add ⟨xb, xo, xs⟩ (i * 2 + 1)) = some (.string p.2)) := hby
    clear hby
    unfold maxLen at hcm
    have hsp : hs.length = 0 ∨ xs = none := by
      rcases Nat.eq_zero_or_pos hs.length with h | h
      · exact .inl h
      · exact .inr (spot_none (HBY.out 0 hs[0] (List.getElem?_eq_getElem h)).1)
    have hmk := fun wx : World => run_make_fields 34 42 Tryd.underlying34 info42 hs.length hlen wx
    go_enter Tryd.func12, Tryd.ntmps12
    go_wp2
    clear hmk
    go_loopw [4] (fun a wx => ∃ k : Nat, k ≤ hs.length ∧ a = .int .i64 k ∧ Hid (∀ j, j < hs.length * 2 → ∃ u, wx.cell? ⟨w.heap.size, j, none⟩ = some u) ∧ Hid (∀ j, j < hs.length * 2 → wx.frozen? ⟨w.heap.size, j, none⟩ = false) ∧ Hid (∀ j p, j < k → hs[j]? = some p → wx.cell? ⟨w.heap.size, j * 2, none⟩ = some (.string p.1) ∧ wx.cell? ⟨w.heap.size, j * 2 + 1, none⟩ = some (.string p.2)) ∧ Hid (Below w.heap.size w wx) ∧ w.heap.size < wx.heap.size) (fun a _ => hs.length - (intOf a).toNat)
    case atStart =>
      refine ⟨0, by omega, rfl, fun j hj => ?_, fun j hj => ?_, fun j p hj => absurd hj (Nat.not_lt_zero _), (Below.refl _ _).alloc (Nat.le_refl _) _, by simp⟩
      · exact new_cell w _ 42 j (by rw [size_madeCells]; exact hj)
      · simp
    case round =>
      obtain ⟨k, hk, rfl, HX, HF, HC, HB, hz⟩ := hrel
      by_cases hlt : k < hs.length
      · have hsp' : xs = none := hsp.resolve_left (by omega)
        subst hsp'
        obtain ⟨u0, hu0⟩ := HX.out (k * 2) (by omega)
        obtain ⟨u1, hu1⟩ := HX.out (k * 2 + 1) (by omega)
        have hf0 := HF.out (k * 2) (by omega)
        have hf1 := HF.out (k * 2 + 1) (by omega)
        obtain ⟨⟨nm, vl⟩, hpr⟩ : ∃ pr, hs[k]? = some pr := ⟨_, List.getElem?_eq_getElem hlt⟩
        obtain ⟨s0, s1⟩ := HBY.out k _ hpr
        rw [Addr.add_lit] at s0 s1
        simp only at s0 s1
        have hxb : xb < w.heap.size := World.block_lt_of_cell? w ⟨xb, xo + k * 2, none⟩ s0
        have t0 : wr.cell? ⟨xb, xo + k * 2, none⟩ = some (.string nm) := by rw [HB.out.cell (p := ⟨xb, xo + k * 2, none⟩) hxb]; exact s0
        have t1 : wr.cell? ⟨xb, xo + k * 2 + 1, none⟩ = some (.string vl) := by rw [HB.out.cell (p := ⟨xb, xo + k * 2 + 1, none⟩) hxb]; exact s1
        have HPR : Hid (hs[k]? = some (nm, vl)) := hpr
        have hk1 : (0 : Int) ≤ (k : Int) := by omega
        have hk2 : (k : Int) < (hs.length : Int) := by omega
        have hne : w.heap.size ≠ xb := by omega
        clear hsp s0 s1 hpr
        go_wp2_with fail
        go_region_held3 (fun wx => wx.cell? ⟨xb, xo + k * 2, none⟩ = some (.string nm) ∧ wx.cell? ⟨xb, xo + k * 2 + 1, none⟩ = some (.string vl)) (first | go_keep | exact ⟨(set_other _ (.inl hne)).trans ((set_other _ (.inl hne)).trans t0), (set_other _ (.inl hne)).trans ((set_other _ (.inl hne)).trans t1)⟩) (fail)
        go_wp2
        go_roundw
        case rel => exact ⟨k + 1, by omega, by go_num, fun j hj => (by
            by_cases e1 : j = k * 2 + 1
            · subst e1
              exact ⟨_, set_same _ ((set_other _ (.inr (by omega))).trans hu1)⟩
            · by_cases e0 : j = k * 2
              · subst e0; exact ⟨_, (set_other _ (.inr (by omega))).trans (set_same _ hu0)⟩
              · obtain ⟨u', hu'⟩ := HX.out j hj
                exact ⟨u', (set_other _ (.inr (by omega))).trans ((set_other _ (.inr (by omega))).trans hu')⟩), fun j hj => (by simpa using HF.out j hj), fun j p hj hp => (by
            by_cases e : j = k
            · subst e
              rw [HPR.out] at hp
              cases hp
              exact ⟨(set_other _ (.inr (by omega))).trans (set_same _ hu0), set_same _ ((set_other _ (.inr (by omega))).trans hu1)⟩
            · obtain ⟨a, b⟩ := HC.out j p (by omega) hp
              exact ⟨(set_other _ (.inr (by omega))).trans ((set_other _ (.inr (by omega))).trans a), (set_other _ (.inr (by omega))).trans ((set_other _ (.inr (by omega))).trans b)⟩), (((HB.out.setCell (Nat.le_refl _) _).setCell (Nat.le_refl _) _).drew), by simpa using hz⟩
        case measure => simp [intOf]; omega
      · have hkn : k = hs.length := by omega
        clear hsp
        go_wp2
        go_ret
        exact ⟨_, rfl, .inr ⟨rfl, hz, fun j p hp => HC.out j p (by have := (List.getElem?_eq_some_iff.1 hp).1; omega) hp⟩, HB.out⟩
end Go.Proofs.Qxb6605332aDoor
