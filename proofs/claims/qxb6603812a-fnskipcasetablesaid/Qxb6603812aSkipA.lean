import Derived.Test.Qxb6603812aSkipPlain
import Derived.Test.Qxb6603812aLawB
namespace Go.Proofs.Qxb6603812a
open Go.RowKit

set_option maxHeartbeats 1000000 in
set_option maxRecDepth 100000 in
/-- closing answers 'closAt'. -/
theorem closing_any (s : ByteArray) (i : Nat) (q : UInt8) (bs : Bool) (w : World) (hs : s.size ≤ 1048577) (hi : i ≤ s.size) :
    Calls Try.prog 25 #[.string s, .int .i64 i, .int .u8 q.toNat, .bool bs] w fun e w' => e = .returned (.int .i64 (Sq.closAt s.data.toList q bs i)) ∧ w' = w := by
  have HL : Hid (s.data.toList.length = s.size) := (Lib.size_eq s).symm
  go_enter Try.func25, Try.ntmps25
  go_wp2
  go_loop [1] (fun a => ∃ k : Nat, k ≤ s.size + 1 ∧ a = .int .i64 k ∧ Hid (Sq.closAt s.data.toList q bs k = Sq.closAt s.data.toList q bs i)) (fun a => s.size + 2 - (intOf a).toNat)
  case atStart => exact ⟨i, by omega, rfl, rfl⟩
  case round =>
    obtain ⟨k, hk, rfl, HI⟩ := hrel
    by_cases hlt : k < s.size
    · obtain ⟨x, hx⟩ : ∃ x : UInt8, s[k]'hlt = x := ⟨_, rfl⟩
      have Hx : Hid (s.data.toList[k]? = some x) := by rw [← hx]; exact Lib.data_getElem? s k hlt
      have B92 : Hid (((x.toNat : Int) == 92) = (x == 92)) := Sq.byte_beq x 92
      have Bq : Hid (((x.toNat : Int) == (q.toNat : Int)) = (x == q)) := Sq.byte_beq x q
      have hab : (((x.toNat : Int) == 92) = true ∧ bs = true) ∨ (((x.toNat : Int) == 92) = true ∧ bs = false) ∨ ((x.toNat : Int) == 92) = false := by
        cases ((x.toNat : Int) == 92) <;> cases bs <;> simp
      rcases hab with ⟨e92, rfl⟩ | hab
      · go_wp2
        go_round
        case rel => exact ⟨k + 2, by omega, by go_num, by rw [Hid, ← HI.out, Sq.closAt_bs Hx.out (by rw [← B92.out]; exact e92)]⟩
        case measure => simp [intOf]; omega
      · have HN : Hid ((x == 92 && bs) = false) := by
          rw [Hid, ← B92.out]
          rcases hab with ⟨_, h⟩ | h <;> rw [h] <;> simp
        cases eq : ((x.toNat : Int) == (q.toNat : Int)) with
        | true =>
          have Hq : Hid ((x == q) = true) := by rw [Hid, ← Bq.out]; exact eq
          by_cases hlt2 : k + 1 < s.size
          · obtain ⟨y, hy⟩ : ∃ y : UInt8, s[k + 1]'hlt2 = y := ⟨_, rfl⟩
            have Hy : Hid (s.data.toList[k + 1]? = some y) := by rw [← hy]; exact Lib.data_getElem? s (k + 1) hlt2
            have Byq : Hid (((y.toNat : Int) == (q.toNat : Int)) = (y == q)) := Sq.byte_beq y q
            cases eyq : ((y.toNat : Int) == (q.toNat : Int)) with
            | true =>
              have HR : Hid (Sq.closAt s.data.toList q bs (k + 2) = Sq.closAt s.data.toList q bs i) := by
                rw [Hid, ← HI.out, Sq.closAt_two Hx.out Hy.out HN.out Hq.out (by rw [← Byq.out]; exact eyq)]
              rcases hab with ⟨e92, rfl⟩ | e92
              · go_wp2
                go_round
                case rel => exact ⟨k + 2, by omega, by go_num, HR⟩
                case measure => simp [intOf]; omega
              · go_wp2
                go_round
                case rel => exact ⟨k + 2, by omega, by go_num, HR⟩
                case measure => simp [intOf]; omega
            | false =>
              have HR : Hid (Sq.closAt s.data.toList q bs i = k + 1) := by
                rw [Hid, ← HI.out, Sq.closAt_one Hx.out HN.out Hq.out (fun z hz => by rw [Hy.out] at hz; cases hz; rw [← Byq.out]; exact eyq)]
              rcases hab with ⟨e92, rfl⟩ | e92
              · go_wp2
                go_ret
                exact ⟨ret_int (by rw [HR.out]; go_num), rfl⟩
              · go_wp2
                go_ret
                exact ⟨ret_int (by rw [HR.out]; go_num), rfl⟩
          · have HR : Hid (Sq.closAt s.data.toList q bs i = k + 1) := by
              rw [Hid, ← HI.out, Sq.closAt_one Hx.out HN.out Hq.out (fun z hz => by have := (List.getElem?_eq_some_iff.1 hz).1; rw [HL.out] at this; omega)]
            rcases hab with ⟨e92, rfl⟩ | e92
            · go_wp2
              go_ret
              exact ⟨ret_int (by rw [HR.out]; go_num), rfl⟩
            · go_wp2
              go_ret
              exact ⟨ret_int (by rw [HR.out]; go_num), rfl⟩
        | false =>
          have HR : Hid (Sq.closAt s.data.toList q bs (k + 1) = Sq.closAt s.data.toList q bs i) := by
            rw [Hid, ← HI.out, Sq.closAt_next Hx.out HN.out (by rw [← Bq.out]; exact eq)]
          rcases hab with ⟨e92, rfl⟩ | e92
          · go_wp2
            go_round
            case rel => exact ⟨k + 1, by omega, by go_num, HR⟩
            case measure => simp [intOf]; omega
          · go_wp2
            go_round
            case rel => exact ⟨k + 1, by omega, by go_num, HR⟩
            case measure => simp [intOf]; omega
    · go_wp2
      go_ret
      exact ⟨ret_int (by rw [← HI.out, Sq.closAt_end (by rw [HL.out]; omega), HL.out]), rfl⟩
end Go.Proofs.Qxb6603812a
