import Derived.Test.Qxb6606379aDoorShelf
import Derived.Test.Qxb6606379aDoorPlain
import Derived.WalkKit
import Derived.WalkSpells
import Derived.WalkLawsBesides
import Derived.Laws.BitsAll
import Derived.Laws.Runes
import Derived.Deep.DeepCutAuto
namespace Go.Proofs.Qxb6606379aDoor
open Go.RowKit

theorem ret_bool {a b : Bool} (h : a = b) : Ending.returned (.bool a) = .returned (.bool b) := by rw [h]
theorem ret_int {a b : Int} (h : a = b) : Ending.returned (.int .i64 a) = .returned (.int .i64 b) := by rw [h]

theorem isDigit_any (x : UInt8) (w : World) :
    Calls Tryd.prog 29 #[.int .u8 x.toNat] w fun e w' => e = .returned (.bool (Bc.isD x)) ∧ w' = w := by
  have HI : Hid (Bc.isD x = (decide (48 ≤ x.toNat) && decide (x.toNat ≤ 57))) := rfl
  by_cases h1 : 48 ≤ x.toNat
  · by_cases h2 : x.toNat ≤ 57
    · have HF : Hid (Bc.isD x = true) := by rw [Hid, HI.out, decide_eq_true h1, decide_eq_true h2]; rfl
      clear HI
      go_enter Tryd.func29, Tryd.ntmps29
      go_wp2
      go_ret
      exact ⟨ret_bool (by first | exact HF.out.symm | (rw [HF.out]; simp; omega)), rfl⟩
    · have HF : Hid (Bc.isD x = false) := by rw [Hid, HI.out, decide_eq_false h2, Bool.and_false]
      clear HI
      go_enter Tryd.func29, Tryd.ntmps29
      go_wp2
      go_ret
      exact ⟨ret_bool (by first | exact HF.out.symm | (rw [HF.out]; simp; omega)), rfl⟩
  · have HF : Hid (Bc.isD x = false) := by rw [Hid, HI.out, decide_eq_false h1, Bool.false_and]
    clear HI
    go_enter Tryd.func29, Tryd.ntmps29
    go_wp2
    go_ret
    exact ⟨ret_bool (by first | exact HF.out.symm | (rw [HF.out]; simp; omega)), rfl⟩

theorem zzIsDigit_any (x : UInt8) (w : World) :
    Calls Tryd.prog 15 #[.int .u8 x.toNat] w fun e w' => e = .returned (.bool (Bc.isD x)) ∧ w' = w := by
  have HI : Hid (Bc.isD x = (decide (48 ≤ x.toNat) && decide (x.toNat ≤ 57))) := rfl
  by_cases h1 : 48 ≤ x.toNat
  · by_cases h2 : x.toNat ≤ 57
    · have HF : Hid (Bc.isD x = true) := by rw [Hid, HI.out, decide_eq_true h1, decide_eq_true h2]; rfl
      clear HI
      go_enter Tryd.func15, Tryd.ntmps15
      go_wp2
      go_ret
      exact ⟨ret_bool (by first | exact HF.out.symm | (rw [HF.out]; simp; omega)), rfl⟩
    · have HF : Hid (Bc.isD x = false) := by rw [Hid, HI.out, decide_eq_false h2, Bool.and_false]
      clear HI
      go_enter Tryd.func15, Tryd.ntmps15
      go_wp2
      go_ret
      exact ⟨ret_bool (by first | exact HF.out.symm | (rw [HF.out]; simp; omega)), rfl⟩
  · have HF : Hid (Bc.isD x = false) := by rw [Hid, HI.out, decide_eq_false h1, Bool.false_and]
    clear HI
    go_enter Tryd.func15, Tryd.ntmps15
    go_wp2
    go_ret
    exact ⟨ret_bool (by first | exact HF.out.symm | (rw [HF.out]; simp; omega)), rfl⟩

theorem has_any (L r : Nat) (hL : L < 65536) (hr : r < 65536) (w : World) :
    Calls Tryd.prog 18 #[.int .u16 L, .int .u16 r] w fun e w' => e = .returned (.bool (!((L &&& r) == 0))) ∧ w' = w := by
  have hb := u16_and_nat L r hL hr
  obtain ⟨z, hz⟩ : ∃ z, L &&& r = z := ⟨_, rfl⟩
  rw [hz] at hb ⊢
  clear hz
  go_enter Tryd.func18, Tryd.ntmps18
  go_wp2
  go_ret
  refine ⟨ret_bool ?_, rfl⟩
  cases z with
  | zero => rfl
  | succ n => simp; omega

def OpensPost (s : ByteArray) (w : World) (e : Ending) (w' : World) : Prop := ∃ r, e = .returned (.bool r) ∧ w' = w ∧ (r = true → s.data.toList[0]? = some 47 ∧ s.data.toList[1]? = some 42)

theorem opens_any (s : ByteArray) (w : World) : Calls Tryd.prog 7 #[.string s] w fun e w' => OpensPost s w e w' := by
  by_cases h2 : 2 ≤ s.size
  · obtain ⟨x, hx⟩ : ∃ x : UInt8, s[0]'(by omega) = x := ⟨_, rfl⟩
    obtain ⟨y, hy⟩ : ∃ y : UInt8, s[1]'(by omega) = y := ⟨_, rfl⟩
    have Hx : Hid (s.data.toList[0]? = some x) := by rw [← hx]; exact Lib.data_getElem? s 0 (by omega)
    have Hy : Hid (s.data.toList[1]? = some y) := by rw [← hy]; exact Lib.data_getElem? s 1 (by omega)
    cases ex : ((x.toNat : Int) == 47) with
    | false =>
      go_enter Tryd.func7, Tryd.ntmps7
      go_wp2
      go_ret
      exact ⟨false, rfl, rfl, fun h => by cases h⟩
    | true =>
      cases ey : ((y.toNat : Int) == 42) with
      | false =>
        go_enter Tryd.func7, Tryd.ntmps7
        go_wp2
        go_ret
        exact ⟨false, rfl, rfl, fun h => by cases h⟩
      | true =>
        have HX : Hid (x = 47) := UInt8.toNat_inj.1 (by have := beq_iff_eq.1 ex; show x.toNat = 47; omega)
        have HY : Hid (y = 42) := UInt8.toNat_inj.1 (by have := beq_iff_eq.1 ey; show y.toNat = 42; omega)
        go_enter Tryd.func7, Tryd.ntmps7
        go_wp2
        go_ret
        exact ⟨true, rfl, rfl, fun _ => ⟨by rw [Hx.out, HX.out], by rw [Hy.out, HY.out]⟩⟩
  · go_enter Tryd.func7, Tryd.ntmps7
    go_wp2
    go_ret
    exact ⟨false, rfl, rfl, fun h => by cases h⟩

theorem bytes_any (a b c d f g : Value) (s t : ByteArray) (w : World) :
    Calls Tryd.prog 6 #[a, b, .string s, c, d, f, g, .string t] w fun e w' => ∃ r, e = .returned (.bool r) ∧ w' = w := by
  by_cases h1 : s.size ≤ 1048576
  · by_cases h2 : t.size ≤ 1048576
    · by_cases h3 : s.size + t.size ≤ 1048576
      · go_enter Tryd.func6, Tryd.ntmps6
        go_wp2
        go_ret
        exact ⟨_, rfl, rfl⟩
      · go_enter Tryd.func6, Tryd.ntmps6
        go_wp2
        go_ret
        exact ⟨_, rfl, rfl⟩
    · go_enter Tryd.func6, Tryd.ntmps6
      go_wp2
      go_ret
      exact ⟨_, rfl, rfl⟩
  · go_enter Tryd.func6, Tryd.ntmps6
    go_wp2
    go_ret
    exact ⟨_, rfl, rfl⟩
end Go.Proofs.Qxb6606379aDoor
