import Derived.Test.Qxb6606379aDoorA
namespace Go.Proofs.Qxb6606379aDoor
open Go.RowKit

def InnerPost (s : ByteArray) (w : World) (e : Ending) (w' : World) : Prop := ∃ r, e = .returned (.bool r) ∧ w' = w ∧ (r = false → Bc.noInner s.data.toList)

theorem noInner_end {t : List UInt8} {k : Nat} (h : ∀ j, 2 ≤ j → j < k → ¬ Bc.at2 t j 47 42) (hk : t.length ≤ k + 1) : Bc.noInner t := fun j hj hat => by
  have := Bc.at2_lt hat
  exact h j hj (by omega) hat

theorem not_at2_1 {t : List UInt8} {k : Nat} {x a b : UInt8} (hx : t[k]? = some x) (h : ((x.toNat : Int) == (a.toNat : Int)) = false) : ¬ Bc.at2 t k a b := fun hat => by
  have h1 := hat.1
  rw [hx] at h1
  cases h1
  simp at h
theorem not_at2_2 {t : List UInt8} {k : Nat} {x a b : UInt8} (hx : t[k + 1]? = some x) (h : ((x.toNat : Int) == (b.toNat : Int)) = false) : ¬ Bc.at2 t k a b := fun hat => by
  have h1 := hat.2
  rw [hx] at h1
  cases h1
  simp at h

theorem below_succ {P : Nat → Prop} {k : Nat} (h : ∀ j, 2 ≤ j → j < k → ¬ P j) (hk : ¬ P k) : ∀ j, 2 ≤ j → j < k + 1 → ¬ P j := fun j hj hlt => by
  by_cases e : j = k
  · subst e; exact hk
  · exact h j hj (by omega)

set_option maxHeartbeats 400000 in
theorem inner_any (s : ByteArray) (w : World) (hs : s.size ≤ 1048576) (h2 : 2 ≤ s.size) : Calls Tryd.prog 9 #[.string s] w fun e w' => InnerPost s w e w' := by
  have HL : Hid (s.data.toList.length = s.size) := (Lib.size_eq s).symm
  go_enter Tryd.func9, Tryd.ntmps9
  go_wp2
  go_loop [3] (fun a => ∃ k : Nat, 2 ≤ k ∧ k ≤ s.size ∧ a = .int .i64 k ∧ Hid (∀ j, 2 ≤ j → j < k → ¬ Bc.at2 s.data.toList j 47 42)) (fun a => s.size - (intOf a).toNat)
  case atStart => exact ⟨2, Nat.le_refl _, h2, rfl, fun j hj hlt => by omega⟩
  case round =>
    obtain ⟨k, hk2, hk, rfl, HI⟩ := hrel
    by_cases hlt : k + 1 < s.size
    · obtain ⟨x, hx⟩ : ∃ x : UInt8, s[k]'(by omega) = x := ⟨_, rfl⟩
      have Hx : Hid (s.data.toList[k]? = some x) := by rw [← hx]; exact Lib.data_getElem? s k (by omega)
      obtain ⟨y, hy⟩ : ∃ y : UInt8, s[k + 1]'hlt = y := ⟨_, rfl⟩
      have Hy : Hid (s.data.toList[k + 1]? = some y) := by rw [← hy]; exact Lib.data_getElem? s (k + 1) hlt
      cases ex : ((x.toNat : Int) == 47) with
      | false =>
        have HN : Hid (∀ j, 2 ≤ j → j < k + 1 → ¬ Bc.at2 s.data.toList j 47 42) := below_succ HI.out (not_at2_1 Hx.out ex)
        clear hy
        go_wp2
        go_round
        case rel => exact ⟨k + 1, by omega, by omega, by go_num, HN⟩
        case measure => simp [intOf]; omega
      | true =>
        have hidx : ∀ wx, (Instr.index 9 (.string s) (.int .i64 ((k : Int) + 1))).run Tryd.prog wx = .ok (.int .u8 y.toNat) wx := fun wx => by
          have e := run_index_string (P := Tryd.prog) (w := wx) 9 s .i64 ((k : Int) + 1) Tryd.underlying9
          rw [dif_pos (by omega)] at e
          rw [e]
          simp only [show ((k : Int) + 1).toNat = k + 1 from by omega, hy]
        clear hy
        cases ey : ((y.toNat : Int) == 42) with
        | false =>
          have HN : Hid (∀ j, 2 ≤ j → j < k + 1 → ¬ Bc.at2 s.data.toList j 47 42) := below_succ HI.out (not_at2_2 Hy.out ey)
          go_wp2
          go_round
          case rel => exact ⟨k + 1, by omega, by omega, by go_num, HN⟩
          case measure => simp [intOf]; omega
        | true =>
          go_wp2
          go_ret
          exact ⟨true, rfl, rfl, fun h => by cases h⟩
    · have HN : Hid (Bc.noInner s.data.toList) := noInner_end HI.out (by rw [HL.out]; omega)
      go_wp2
      go_ret
      exact ⟨false, rfl, rfl, fun _ => HN.out⟩
end Go.Proofs.Qxb6606379aDoor
