import Derived.Test.Qxb6603812aAny2
import Derived.Test.Qxb6603812aSteps
namespace Go.Proofs.Qxb6603812a
open Go.RowKit

theorem ret_int {k : IntKind} {a b : Int} (h : a = b) : Ending.returned (.int k a) = .returned (.int k b) := by rw [h]

set_option maxHeartbeats 1000000 in
set_option maxRecDepth 100000 in
/-- continuation answers 'contAt'. -/
theorem continuation_any (s : ByteArray) (i : Nat) (w : World) (hs : s.size ≤ 1048577) (hi : i ≤ s.size) :
    Calls Try.prog 20 #[.string s, .int .i64 i] w fun e w' => e = .returned (.int .i64 (Sq.contAt s.data.toList i)) ∧ Below w.heap.size w w' := by
  have hlen : s.data.toList.length = s.size := (Lib.size_eq s).symm
  have HL : Hid (s.data.toList.length = s.size) := hlen
  clear hlen
  go_enter Try.func20, Try.ntmps20
  go_wp2
  go_loopw [5, 6] (fun a b wx => ∃ (nl : Bool) (k : Nat), k ≤ s.size ∧ a = .bool nl ∧ b = .int .i64 k ∧ Hid (Sq.CInv s.data.toList i nl k) ∧ Hid (Below w.heap.size w wx)) (fun _ b _ => s.size - (intOf b).toNat)
  case atStart => exact ⟨false, i, hi, rfl, rfl, Sq.cinv_start _ _, Below.refl _ _⟩
  case round =>
    obtain ⟨nl, k, hk, rfl, rfl, HI, HB⟩ := hrel
    by_cases hlt : k < s.size
    · obtain ⟨x, hx⟩ : ∃ x : UInt8, s[k]'hlt = x := ⟨_, rfl⟩
      have Hx : Hid (s.data.toList[k]? = some x) := by rw [← hx]; exact Lib.data_getElem? s k hlt
      have B10 : Hid (((x.toNat : Int) == 10) = (x == 10)) := Sq.byte_beq x 10
      have B13 : Hid (((x.toNat : Int) == 13) = (x == 13)) := Sq.byte_beq x 13
      have B32 : Hid (((x.toNat : Int) == 32) = (x == 32)) := Sq.byte_beq x 32
      have B9 : Hid (((x.toNat : Int) == 9) = (x == 9)) := Sq.byte_beq x 9
      have B12 : Hid (((x.toNat : Int) == 12) = (x == 12)) := Sq.byte_beq x 12
      have B39 : Hid (((x.toNat : Int) == 39) = (x == 39)) := Sq.byte_beq x 39
      have hbrk : Hid (Sq.isBrk x = (((x.toNat : Int) == 10) || ((x.toNat : Int) == 13))) := by unfold Sq.isBrk; rw [← B10.out, ← B13.out]; rfl
      have hsp : Hid (Sq.isSp x = (((x.toNat : Int) == 32) || ((x.toNat : Int) == 9) || ((x.toNat : Int) == 12))) := by unfold Sq.isSp; rw [← B32.out, ← B9.out, ← B12.out]; rfl
      clear B10 B13 B32 B9 B12
      have finB : Sq.isBrk x = true → Hid (Sq.CInv s.data.toList i true (k + 1)) := fun h => Sq.cinv_brk HI.out Hx.out h
      have HfinB : Hid (Sq.isBrk x = true → Hid (Sq.CInv s.data.toList i true (k + 1))) := finB
      have HfinS : Hid (Sq.isBrk x = false → Sq.isSp x = true → Hid (Sq.CInv s.data.toList i nl (k + 1))) := fun h h' => Sq.cinv_sp HI.out Hx.out h h'
      clear finB
      cases e10 : ((x.toNat : Int) == 10) with
      | true =>
        go_wp2
        go_roundw
        case rel => exact ⟨true, k + 1, by omega, rfl, by go_num, HfinB.out (by rw [hbrk.out, e10]; rfl), HB⟩
        case measure => simp [intOf]; omega
      | false =>
        cases e13 : ((x.toNat : Int) == 13) with
        | true =>
          go_wp2
          go_roundw
          case rel => exact ⟨true, k + 1, by omega, rfl, by go_num, HfinB.out (by rw [hbrk.out, e13]; simp), HB⟩
          case measure => simp [intOf]; omega
        | false =>
          have hnb : Hid (Sq.isBrk x = false) := by rw [Hid, hbrk.out, e10, e13]; rfl
          cases e32 : ((x.toNat : Int) == 32) with
          | true =>
            go_wp2
            go_roundw
            case rel => exact ⟨nl, k + 1, by omega, rfl, by go_num, HfinS.out hnb.out (by rw [hsp.out, e32]; rfl), HB⟩
            case measure => simp [intOf]; omega
          | false =>
            cases e9 : ((x.toNat : Int) == 9) with
            | true =>
              go_wp2
              go_roundw
              case rel => exact ⟨nl, k + 1, by omega, rfl, by go_num, HfinS.out hnb.out (by rw [hsp.out, e9]; simp), HB⟩
              case measure => simp [intOf]; omega
            | false =>
              cases e12 : ((x.toNat : Int) == 12) with
              | true =>
                go_wp2
                go_roundw
                case rel => exact ⟨nl, k + 1, by omega, rfl, by go_num, HfinS.out hnb.out (by rw [hsp.out, e12]; simp), HB⟩
                case measure => simp [intOf]; omega
              | false =>
                have hns : Hid (Sq.isSp x = false) := by rw [Hid, hsp.out, e32, e9, e12]; rfl
                clear hbrk hsp HfinB HfinS
                cases hp : Lib.hasPrefix (s.data.toList.drop k) [45, 45] with
                | true =>
                  have hq : Lib.hasPrefix (s.extract k s.size).data.toList (⟨#[45, 45]⟩ : ByteArray).data.toList = true := by rw [Lib.extract_to_end]; exact hp
                  obtain ⟨e, he⟩ : ∃ e, Lib.indexAny (s.data.toList.drop k) [10, 13] = e := ⟨_, rfl⟩
                  have hr : Lib.indexAny (s.extract k s.size).data.toList [10, 13] = e := by rw [Lib.extract_to_end]; exact he
                  obtain ⟨g1, g2, g3⟩ := Sq.indexAny_dash (by rw [HL.out]; omega) hp he
                  rw [HL.out] at g2
                  have HP : Hid (Lib.hasPrefix (s.data.toList.drop k) [45, 45] = true) := hp
                  have HE : Hid (Lib.indexAny (s.data.toList.drop k) [10, 13] = e) := he
                  have hsz : Hid ((s.extract k s.size).size < 4294967281) := by rw [Hid, Lib.size_eq, Lib.extract_to_end, List.length_drop, HL.out]; omega
                  have HQ : Hid (Lib.hasPrefix (s.extract k s.size).data.toList (⟨#[45, 45]⟩ : ByteArray).data.toList = true) := hq
                  have HR : Hid (Lib.indexAny (s.extract k s.size).data.toList [10, 13] = e) := hr
                  clear hp he hq hr
                  by_cases h0 : e < 0
                  · go_wp2_with (first
                      | (go_at_call 23; refine (Try.strings_HasPrefix _ _ _).mono ?_; rintro e1 w1 ⟨rfl, rfl⟩; rw [HQ.out])
                      | (go_at_call 24; refine (indexAny_brk _ _ hsz.out).mono ?_; rintro e1 w2 ⟨rfl, hb2⟩; rw [HR.out]))
                    go_ret
                    exact ⟨ret_int (by rw [Sq.cinv_dash_none HI.out HP.out (by rw [HE.out]; exact h0)]), HB.out.trans (hb2.mono HB.out.size)⟩
                  · have h0' : 0 ≤ e := by omega
                    have g3' := g3 h0'
                    go_wp2_with (first
                      | (go_at_call 23; refine (Try.strings_HasPrefix _ _ _).mono ?_; rintro e1 w1 ⟨rfl, rfl⟩; rw [HQ.out])
                      | (go_at_call 24; refine (indexAny_brk _ _ hsz.out).mono ?_; rintro e1 w2 ⟨rfl, hb2⟩; rw [HR.out]))
                    go_roundw
                    case rel => exact ⟨nl, k + e.toNat, by omega, rfl, by go_num, Sq.cinv_dash_some HI.out HP.out HE.out h0', HB.out.trans (hb2.mono HB.out.size)⟩
                    case measure => simp [intOf]; omega
                | false =>
                  have HQ : Hid (Lib.hasPrefix (s.extract k s.size).data.toList (⟨#[45, 45]⟩ : ByteArray).data.toList = false) := by rw [Hid, Lib.extract_to_end]; exact hp
                  have HP : Hid (Lib.hasPrefix (s.data.toList.drop k) [45, 45] = false) := hp
                  clear hp
                  cases e39 : ((x.toNat : Int) == 39) with
                  | true =>
                    have h39 : Hid ((x == 39) = true) := by rw [Hid, ← B39.out]; exact e39
                    cases nl with
                    | true =>
                      go_wp2_with (go_at_call 23; refine (Try.strings_HasPrefix _ _ _).mono ?_; rintro e1 w1 ⟨rfl, rfl⟩; rw [HQ.out])
                      go_ret
                      exact ⟨ret_int (by rw [Sq.cinv_quote HI.out Hx.out hnb.out hns.out HP.out h39.out]; go_num), HB.out⟩
                    | false =>
                      go_wp2_with (go_at_call 23; refine (Try.strings_HasPrefix _ _ _).mono ?_; rintro e1 w1 ⟨rfl, rfl⟩; rw [HQ.out])
                      go_ret
                      exact ⟨ret_int (by rw [Sq.cinv_other HI.out Hx.out hnb.out hns.out HP.out (by simp)]), HB.out⟩
                  | false =>
                    have h39 : Hid ((x == 39) = false) := by rw [Hid, ← B39.out]; exact e39
                    go_wp2_with (go_at_call 23; refine (Try.strings_HasPrefix _ _ _).mono ?_; rintro e1 w1 ⟨rfl, rfl⟩; rw [HQ.out])
                    go_ret
                    exact ⟨ret_int (by rw [Sq.cinv_other HI.out Hx.out hnb.out hns.out HP.out (by rw [h39.out]; rfl)]), HB.out⟩
    · go_wp2
      go_ret
      exact ⟨ret_int (by rw [Sq.cinv_end HI.out (by rw [HL.out]; omega)]), HB.out⟩
end Go.Proofs.Qxb6603812a
