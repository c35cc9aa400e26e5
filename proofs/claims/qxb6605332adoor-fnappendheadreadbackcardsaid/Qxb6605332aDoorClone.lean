import Derived.Test.Qxb6605332aDoorEnd
import Derived.Deep.OwnRows
namespace Go.Proofs.Qxb6605332aDoor
open Go.RowKit

/-- Bytes that came in. -/
def InB (w : World) (v : Value) (bs : List UInt8) : Prop :=
  (v = .slice none 0 0 ∧ bs = []) ∨ ∃ x cap, v = .slice (some x) bs.length cap ∧ bs.length ≤ cap ∧ cap ≤ maxLen ∧ ∀ i, i < bs.length → w.cell? (x.add i) = some (.int .u8 ((bs.getD i 0).toNat : Int))

/-- A clone: nil, or in the block that was made. -/
def Cl (w' : World) (H : Nat) (v : Value) (bs : List UInt8) : Prop :=
  (v = .slice none 0 0 ∧ bs = []) ∨ (v = .slice (some ⟨H, 0, none⟩) bs.length bs.length ∧ H < w'.heap.size ∧ ∀ i, i < bs.length → w'.cell? ⟨H, i, none⟩ = some (.int .u8 ((bs.getD i 0).toNat : Int)))

theorem set_same {w : World} {b o : Nat} {u : Value} (v : Value) (h : w.cell? ⟨b, o, none⟩ = some u) : (w.setCell ⟨b, o, none⟩ v).cell? ⟨b, o, none⟩ = some v := World.cell?_setCell_same w _ v h
theorem set_other {w : World} {b o b' o' : Nat} (v : Value) (h : b ≠ b' ∨ o ≠ o') : (w.setCell ⟨b, o, none⟩ v).cell? ⟨b', o', none⟩ = w.cell? ⟨b', o', none⟩ := by
  rw [World.cell?_setCell_other]
  intro e
  simp only [Addr.mk.injEq] at e
  rcases h with h | h
  · exact h e.1
  · exact h e.2.1
theorem new_cell (w : World) (c : Array Value) (t : TypeId) (j : Nat) (hj : j < c.size) : ∃ u, (w.alloc (.cells c t)).cell? ⟨w.heap.size, j, none⟩ = some u := by
  have h : (w.alloc (.cells c t)).heap[w.heap.size]? = some (.cells c t) := heap_alloc_new w _
  refine ⟨c[j], ?_⟩
  simp only [World.cell?, h]
  simp [hj]
theorem spot_none {w : World} {b o : Nat} {q : Option Nat} {v : Value} (h : w.cell? (Addr.add ⟨b, o, q⟩ 0) = some v) : q = none := by
  cases q with
  | none => rfl
  | some q =>
    simp only [World.cell?, Addr.add] at h
    simp only [if_true] at h
    split at h <;> simp at h

set_option maxHeartbeats 1000000 in
set_option maxRecDepth 100000 in
theorem cloneBytes_any (w : World) (v : Value) (bs : List UInt8) (hin : InB w v bs) (hlen : bs.length ≤ 1048576) :
    Calls Tryd.prog 10 #[v] w fun e w' => ∃ v', e = .returned v' ∧ Cl w' w.heap.size v' bs ∧ Below w.heap.size w w' := by
  have hnil := fun (wx : World) (a : Option Addr) (n c : Nat) => Lib.run_eql_slice_nil (P := Tryd.prog) wx 25 5 a n c 0 0 Tryd.underlying25
  rcases hin with ⟨rfl, rfl⟩ | ⟨⟨xb, xo, xs⟩, cap, rfl, hcl, hcm, hby⟩
  · go_enter Tryd.func10, Tryd.ntmps10
    go_wp2
    go_ret
    exact ⟨_, rfl, .inl ⟨rfl, rfl⟩, Below.refl _ _⟩
  · have HBY : Hid (∀ i, i < bs.length → w.cell? (Addr.add ⟨xb, xo, xs⟩ i) = some (.int .u8 ((bs.getD i 0).toNat : Int))) := hby
    clear hby
    unfold maxLen at hcm
    have hsp : bs.length = 0 ∨ xs = none := by
      rcases Nat.eq_zero_or_pos bs.length with h | h
      · exact .inl h
      · exact .inr (spot_none (HBY.out 0 h))
    have hmk := fun wx : World => run_make_row' 25 5 (.int .u8 0) 1 Tryd.underlying25 info5 rfl .i64 .i64 bs.length (by omega) (by omega) wx
    go_enter Tryd.func10, Tryd.ntmps10
    go_wp2
    clear hmk
    go_loopw [4] (fun a wx => ∃ k : Nat, k ≤ bs.length ∧ a = .int .i64 k ∧ Hid (∀ j, j < bs.length → ∃ u, wx.cell? ⟨w.heap.size, j, none⟩ = some u) ∧ Hid (∀ j, j < bs.length → wx.frozen? ⟨w.heap.size, j, none⟩ = false) ∧ Hid (∀ j, j < k → wx.cell? ⟨w.heap.size, j, none⟩ = some (.int .u8 ((bs.getD j 0).toNat : Int))) ∧ Hid (Below w.heap.size w wx) ∧ w.heap.size < wx.heap.size) (fun a _ => bs.length - (intOf a).toNat)
    case atStart =>
      refine ⟨0, by omega, rfl, fun j hj => ?_, fun j hj => ?_, fun j hj => absurd hj (Nat.not_lt_zero _), (Below.refl _ _).alloc (Nat.le_refl _) _, by simp⟩
      · exact new_cell w _ 5 j (by rw [size_madeCells]; exact hj)
      · simp
    case round =>
      obtain ⟨k, hk, rfl, HX, HF, HC, HB, hz⟩ := hrel
      by_cases hlt : k < bs.length
      · have hsp' : xs = none := hsp.resolve_left (by omega)
        subst hsp'
        obtain ⟨u, hu⟩ := HX.out k hlt
        have hfk := HF.out k hlt
        obtain ⟨xv, hxv⟩ : ∃ xv, bs.getD k 0 = xv := ⟨_, rfl⟩
        have hs0 := HBY.out k hlt
        rw [Addr.add_lit, hxv] at hs0
        have hxb : xb < w.heap.size := World.block_lt_of_cell? w ⟨xb, xo + k, none⟩ hs0
        have hsrc : wr.cell? ⟨xb, xo + k, none⟩ = some (.int .u8 (xv.toNat : Int)) := by
          rw [HB.out.cell (p := ⟨xb, xo + k, none⟩) hxb]; exact hs0
        have HXV : Hid (bs.getD k 0 = xv) := hxv
        clear hs0 hxv
        clear hsp
        go_wp2
        go_roundw
        case rel => exact ⟨k + 1, by omega, by go_num, fun j hj => (by
            by_cases e : j = k
            · subst e; exact ⟨_, set_same _ hu⟩
            · obtain ⟨u', hu'⟩ := HX.out j hj
              exact ⟨u', by rw [set_other _ (.inr (by omega))]; exact hu'⟩), fun j hj => by simpa using HF.out j hj, fun j hj => (by
            by_cases e : j = k
            · subst e; rw [HXV.out]; exact set_same _ hu
            · rw [set_other _ (.inr (by omega))]; exact HC.out j (by omega)), HB.out.setCell (Nat.le_refl _) _, by simpa using hz⟩
        case measure => simp [intOf]; omega
      · have hkn : k = bs.length := by omega
        clear hsp
        go_wp2
        go_ret
        exact ⟨_, rfl, .inr ⟨rfl, hz, fun j hj => HC.out j (by omega)⟩, HB.out⟩
end Go.Proofs.Qxb6605332aDoor
