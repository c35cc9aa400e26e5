import Derived.Test.Qxb6605332aDoorScan
namespace Go.Proofs.Qxb6605332aDoor
open Go.RowKit

/-- The header's cells, nil or not. -/
def HdrAt (w : World) (hx : Option Addr) (hs : List (ByteArray × ByteArray)) : Prop :=
  ∀ i p, hs[i]? = some p → ∃ xb xo, hx = some ⟨xb, xo, none⟩ ∧ w.cell? ⟨xb, xo + i * 2, none⟩ = some (.string p.1) ∧ w.cell? ⟨xb, xo + i * 2 + 1, none⟩ = some (.string p.2)

def fsum (hs : List (ByteArray × ByteArray)) : Nat := (hs.map fun p => p.1.size + p.2.size).sum

theorem fsum_take_succ {hs : List (ByteArray × ByteArray)} {k : Nat} {p : ByteArray × ByteArray} (h : hs[k]? = some p) : fsum (hs.take (k + 1)) = fsum (hs.take k) + (p.1.size + p.2.size) := by
  unfold fsum
  rw [List.take_add_one, h]
  simp

def BytesPost (w : World) (n : Nat) (e : Ending) (w' : World) : Prop := ∃ r, e = .returned (.bool r) ∧ w' = w ∧ (r = true → n ≤ 1048576)

set_option maxHeartbeats 2000000 in
set_option maxRecDepth 100000 in
theorem bytes_any (w : World) (ba hx ya da : Option Addr) (bl bc hc yl yc dl dc : Nat) (st : Value) (ct : ByteArray) (h10 opn : Value) (hs : List (ByteArray × ByteArray)) (hH : HdrAt w hx hs) :
    Calls Tryd.prog 7 #[.slice ba bl bc, st, .string ct, .slice hx hs.length hc, .slice ya yl yc, h10, opn, .slice da dl dc] w fun e w' => BytesPost w (bl + ct.size + hs.length + fsum hs + yl + dl) e w' := by
  have HH : Hid (HdrAt w hx hs) := hH
  clear hH
  by_cases c1 : bl ≤ 1048576
  case neg =>
    go_enter Tryd.func7, Tryd.ntmps7
    go_wp2
    go_ret
    exact ⟨false, rfl, rfl, fun h => by cases h⟩
  by_cases c2 : ct.size ≤ 1048576
  case neg =>
    go_enter Tryd.func7, Tryd.ntmps7
    go_wp2
    go_ret
    exact ⟨false, rfl, rfl, fun h => by cases h⟩
  by_cases c3 : bl + ct.size ≤ 1048576
  case neg =>
    go_enter Tryd.func7, Tryd.ntmps7
    go_wp2
    go_ret
    exact ⟨false, rfl, rfl, fun h => by cases h⟩
  by_cases c4 : hs.length ≤ 1048576
  case neg =>
    go_enter Tryd.func7, Tryd.ntmps7
    go_wp2
    go_ret
    exact ⟨false, rfl, rfl, fun h => by cases h⟩
  by_cases c5 : bl + ct.size + hs.length ≤ 1048576
  case neg =>
    go_enter Tryd.func7, Tryd.ntmps7
    go_wp2
    go_ret
    exact ⟨false, rfl, rfl, fun h => by cases h⟩
  go_enter Tryd.func7, Tryd.ntmps7
  go_wp2
  go_loop [17, 18] (fun a b => ∃ k n : Nat, k ≤ hs.length ∧ b = .int .i64 k ∧ a = .int .i64 n ∧ n ≤ 1048576 ∧ Hid (n = bl + ct.size + hs.length + fsum (hs.take k))) (fun a b => hs.length - (intOf b).toNat)
  case atStart => exact ⟨0, bl + ct.size + hs.length, Nat.zero_le _, rfl, by go_num, by omega, by simp [Hid, fsum]⟩
  case round =>
    obtain ⟨k, n, hk, rfl, rfl, hn, HN⟩ := hrel
    by_cases hlt : k < hs.length
    · obtain ⟨⟨nm, vl⟩, hpr⟩ : ∃ pr, hs[k]? = some pr := ⟨_, List.getElem?_eq_getElem hlt⟩
      obtain ⟨xb, xo, rfl, t0, t1⟩ := HH.out k _ hpr
      have HS : Hid (fsum (hs.take (k + 1)) = fsum (hs.take k) + (nm.size + vl.size)) := fsum_take_succ hpr
      clear hpr
      simp only at t0 t1
      by_cases d1 : nm.size ≤ 1048576
      case neg =>
        go_wp2
        go_ret
        exact ⟨false, rfl, rfl, fun h => by cases h⟩
      by_cases d2 : n + nm.size ≤ 1048576
      case neg =>
        go_wp2
        go_ret
        exact ⟨false, rfl, rfl, fun h => by cases h⟩
      by_cases d3 : vl.size ≤ 1048576
      case neg =>
        go_wp2
        go_ret
        exact ⟨false, rfl, rfl, fun h => by cases h⟩
      by_cases d4 : n + nm.size + vl.size ≤ 1048576
      case neg =>
        go_wp2
        go_ret
        exact ⟨false, rfl, rfl, fun h => by cases h⟩
      go_wp2
      go_round
      case rel => exact ⟨k + 1, n + nm.size + vl.size, by omega, by go_num, by go_num, d4, by rw [Hid, HS.out, HN.out]; omega⟩
      case measure => simp [intOf]; omega
    · have HE : Hid (n = bl + ct.size + hs.length + fsum hs) := by
        have h := HN.out
        rw [List.take_of_length_le (by omega)] at h
        exact h
      by_cases d1 : yl ≤ 1048576
      case neg =>
        go_wp2
        go_ret
        exact ⟨false, rfl, rfl, fun h => by cases h⟩
      by_cases d2 : n + yl ≤ 1048576
      case neg =>
        go_wp2
        go_ret
        exact ⟨false, rfl, rfl, fun h => by cases h⟩
      by_cases d3 : dl ≤ 1048576
      case neg =>
        go_wp2
        go_ret
        exact ⟨false, rfl, rfl, fun h => by cases h⟩
      by_cases d4 : n + yl + dl ≤ 1048576
      case neg =>
        go_wp2
        go_ret
        exact ⟨false, rfl, rfl, fun h => by cases h⟩
      go_wp2
      go_ret
      exact ⟨true, rfl, rfl, fun _ => by have := HE.out; omega⟩
end Go.Proofs.Qxb6605332aDoor
