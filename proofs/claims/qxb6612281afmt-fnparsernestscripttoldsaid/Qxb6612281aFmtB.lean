import Derived.Test.Qxb6612281aFmtA
import Derived.Deep.RegionHeld3
namespace Go.Proofs.Qxb6612281aFmt
open Go.RowKit
set_option linter.unusedVariables false

/-- A place below o, or -1. -/
def PlacePost (o : Nat) (w : World) (e : Ending) (w' : World) : Prop := ∃ r : Int, e = .returned (.int .i64 r) ∧ -1 ≤ r ∧ r < (o : Int) ∧ w' = w

set_option maxHeartbeats 1000000 in
set_option maxRecDepth 100000 in
theorem lastByte_some (w : World) (H o c n : Nat) (bs : List Int) (ho : o ≤ n) (hn : n ≤ 1048576) (hby : ∀ i, i < n → w.cell? ⟨H, i, none⟩ = some (.int .u8 (bs.getD i 0))) :
    Calls Tryf.prog 21 #[.slice (some ⟨H, 0, none⟩) o c, .int .u8 10] w (PlacePost o w) := by
  have HBY : Hid (∀ i, i < n → w.cell? ⟨H, i, none⟩ = some (.int .u8 (bs.getD i 0))) := hby
  clear hby
  go_enter Tryf.func21, Tryf.ntmps21
  go_wp2
  go_loop [5] (fun a => ∃ k : Nat, k ≤ o ∧ a = .int .i64 ((k : Int) - 1)) (fun a => (intOf a + 1).toNat)
  case atStart => exact ⟨o, Nat.le_refl _, by go_num⟩
  case round =>
    obtain ⟨k, hk, rfl⟩ := hrel
    cases k with
    | zero =>
      go_wp2
      go_ret
      exact ⟨-1, rfl, by omega, by omega, rfl⟩
    | succ j =>
      rw [show (((j + 1 : Nat) : Int) - 1) = (j : Int) from by omega]
      obtain ⟨x, hx⟩ : ∃ x, bs.getD j 0 = x := ⟨_, rfl⟩
      have hc := HBY.out j (by omega)
      rw [hx] at hc
      have h0 : (0 : Int) ≤ (j : Int) := by omega
      have h1 : (j : Int) < (o : Int) := by omega
      clear hx
      cases hb : (x == 10) with
      | true =>
        go_wp2
        go_ret
        exact ⟨j, rfl, by omega, by omega, rfl⟩
      | false =>
        go_wp2
        go_round
        case rel => exact ⟨j, by omega, rfl⟩
        case measure => simp [intOf]

set_option maxHeartbeats 1000000 in
set_option maxRecDepth 100000 in
theorem lastByte_nil (w : World) : Calls Tryf.prog 21 #[.slice none 0 0, .int .u8 10] w (PlacePost 0 w) := by
  go_enter Tryf.func21, Tryf.ntmps21
  go_wp2
  refine wp_loop_rounds 1 ?_
  rw [rounds_succ]
  go_wp2
  go_ret
  exact ⟨-1, rfl, by omega, by omega, rfl⟩

set_option maxHeartbeats 1000000 in
set_option maxRecDepth 100000 in
theorem lastIndex_of (w : World) (v : Value) (o : Nat) (h : Calls Tryf.prog 21 #[v, .int .u8 10] w (PlacePost o w)) : Calls Tryf.prog 18 #[v, .int .u8 10] w (PlacePost o w) := by
  go_enter Tryf.func18, Tryf.ntmps18
  go_wp2_with (go_at_call 21; refine h.mono ?_; rintro e w2 ⟨r, rfl, h1, h2, rfl⟩)
  go_ret
  exact ⟨_, rfl, h1, h2, rfl⟩
end Go.Proofs.Qxb6612281aFmt
