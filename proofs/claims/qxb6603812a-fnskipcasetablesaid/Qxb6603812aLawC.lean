import Derived.Test.Qxb6603812aLawD2
namespace Go.Proofs.Qxb6603812a
open Go.RowKit
set_option linter.unusedSimpArgs false

namespace Sq
theorem lineEnd_nil : lineEnd [] = 0 := rfl
theorem lineEnd_yes {x : UInt8} {t : List UInt8} (h : (x == 10) = true) : lineEnd (x :: t) = 0 := by
  unfold lineEnd
  rw [Lib.indexByte, if_pos h]; rfl
theorem lineEnd_no {x : UInt8} {t : List UInt8} (h : (x == 10) = false) : lineEnd (x :: t) = 1 + lineEnd t := by
  have hg := Lib.indexByte_ge t 10
  unfold lineEnd
  rw [Lib.indexByte, h]
  simp only [Bool.false_eq_true, if_false]
  by_cases hm : Lib.indexByte t 10 = -1
  · rw [hm]; simp; omega
  · have : (Lib.indexByte t 10 == -1) = false := beq_eq_false_iff_ne.2 hm
    rw [this]
    simp only [Bool.false_eq_true, if_false]
    rw [if_neg (by omega), if_neg (by omega)]; omega
def lineAt (l : List UInt8) (k : Nat) : Nat := k + lineEnd (l.drop k)
theorem lineAt_end {l : List UInt8} {k : Nat} (h : k = l.length) : lineAt l k = l.length := by
  unfold lineAt; rw [List.drop_eq_nil_of_le (by omega), lineEnd_nil]; omega
theorem lineAt_yes {l : List UInt8} {k : Nat} {x : UInt8} (h : l[k]? = some x) (hx : (x == 10) = true) : lineAt l k = k := by
  unfold lineAt; rw [drop_at h, lineEnd_yes hx]; rfl
theorem lineAt_no {l : List UInt8} {k : Nat} {x : UInt8} (h : l[k]? = some x) (hx : (x == 10) = false) : lineAt l k = lineAt l (k + 1) := by
  unfold lineAt; rw [drop_at h, lineEnd_no hx]; omega

theorem com_pos (nst : Bool) (d : Nat) (c : UInt8) (t : List UInt8) : 1 ≤ com nst d (c :: t) := by
  cases t with
  | nil => simp [com]
  | cons e t => rw [com]; repeat' split
                all_goals omega

theorem com_flat_le : ∀ (l : List UInt8) (d : Nat), com false 1 l ≤ com true d l
  | [], d => by simp [com]
  | [_], d => by simp [com]
  | c :: e :: t, d => by
    have h1 := com_flat_le t
    have h2 := com_flat_le (e :: t) d
    rw [com, com]
    by_cases hc : (c == 47 && e == 42) = true
    · obtain ⟨hc1, hc2⟩ := Bool.and_eq_true_iff.1 hc
      have : c = 47 := by simpa using hc1
      have : e = 42 := by simpa using hc2
      subst c e
      simp only [Bool.and_false, Bool.false_eq_true, if_false, beq_self_eq_true, Bool.and_self, if_true]
      rw [if_neg (by decide)]
      cases t with
      | nil => simp [com]
      | cons f u =>
        have h3 := h1 (d + 1)
        have h4 := com_pos true (d + 1) f u
        rw [com]
        simp only [Bool.and_false, Bool.false_eq_true, if_false]
        split
        · simp; omega
        · omega
    · have hc' : (c == 47 && e == 42) = false := by simpa using hc
      rw [hc']
      simp only [Bool.and_false, Bool.false_and, Bool.false_eq_true, if_false]
      split
      · simp; split <;> omega
      · omega
end Sq

set_option maxHeartbeats 400000 in
theorem firstLineFeed_any (s : ByteArray) (i : Nat) (w : World) (hs : s.size ≤ 1048577) (hi : i ≤ s.size) :
    Calls Try.prog 16 #[.string s, .int .i64 i] w fun e w' => e = .returned (.int .i64 (Sq.lineAt s.data.toList i)) ∧ w' = w := by
  have HL : Hid (s.data.toList.length = s.size) := (Lib.size_eq s).symm
  go_enter Try.func16, Try.ntmps16
  go_wp2
  go_loop [5] (fun a => ∃ k : Nat, k ≤ s.size ∧ a = .int .i64 k ∧ Hid (Sq.lineAt s.data.toList i = Sq.lineAt s.data.toList k)) (fun a => s.size - (intOf a).toNat)
  case atStart => exact ⟨i, hi, rfl, rfl⟩
  case round =>
    obtain ⟨k, hk, rfl, HI⟩ := hrel
    by_cases hlt : k < s.size
    · obtain ⟨x, hx⟩ : ∃ x : UInt8, s[k]'hlt = x := ⟨_, rfl⟩
      have Hx : Hid (s.data.toList[k]? = some x) := by rw [← hx]; exact Lib.data_getElem? s k hlt
      have B10 : Hid (((x.toNat : Int) == 10) = (x == 10)) := Sq.byte_beq x 10
      cases e10 : ((x.toNat : Int) == 10) with
      | true =>
        have HF : Hid (Sq.lineAt s.data.toList i = k) := by rw [Hid, HI.out, Sq.lineAt_yes Hx.out (by rw [← B10.out]; exact e10)]
        go_wp2
        go_ret
        exact ⟨ret_int (by rw [HF.out]), rfl⟩
      | false =>
        have HF : Hid (Sq.lineAt s.data.toList i = Sq.lineAt s.data.toList (k + 1)) := by rw [Hid, HI.out, Sq.lineAt_no Hx.out (by rw [← B10.out]; exact e10)]
        go_wp2
        go_round
        case rel => exact ⟨k + 1, by omega, by go_num, HF⟩
        case measure => simp [intOf]; omega
    · have HF : Hid (Sq.lineAt s.data.toList i = s.size) := by rw [Hid, HI.out, Sq.lineAt_end (by rw [HL.out]; omega), HL.out]
      go_wp2
      go_ret
      exact ⟨ret_int (by rw [HF.out]), rfl⟩

set_option maxHeartbeats 400000 in
theorem firstCommentClose_any (s : ByteArray) (i : Int) (w : World) (hs : s.size ≤ 1048577) (h0 : 0 ≤ i) (hi : i ≤ s.size) :
    Calls Try.prog 18 #[.string s, .int .i64 i] w fun e w' => e = .returned (.int .i64 (Sq.comAt s.data.toList false 1 i.toNat)) ∧ w' = w := by
  obtain ⟨n, rfl⟩ := Int.eq_ofNat_of_zero_le h0
  rw [Int.toNat_natCast]
  have HL : Hid (s.data.toList.length = s.size) := (Lib.size_eq s).symm
  go_enter Try.func18, Try.ntmps18
  go_wp2
  go_loop [5] (fun a => ∃ k : Nat, k ≤ s.size ∧ a = .int .i64 k ∧ Hid (Sq.comAt s.data.toList false 1 n = Sq.comAt s.data.toList false 1 k)) (fun a => s.size - (intOf a).toNat)
  case atStart => exact ⟨n, by omega, rfl, rfl⟩
  case round =>
    obtain ⟨k, hk, rfl, HI⟩ := hrel
    by_cases hlt2 : k + 1 < s.size
    · have hlt : k < s.size := by omega
      obtain ⟨x, hx⟩ : ∃ x : UInt8, s[k]'hlt = x := ⟨_, rfl⟩
      have Hx : Hid (s.data.toList[k]? = some x) := by rw [← hx]; exact Lib.data_getElem? s k hlt
      obtain ⟨y, hy⟩ : ∃ y : UInt8, s[k + 1]'hlt2 = y := ⟨_, rfl⟩
      have Hy : Hid (s.data.toList[k + 1]? = some y) := by rw [← hy]; exact Lib.data_getElem? s (k + 1) hlt2
      have X42 : Hid (((x.toNat : Int) == 42) = (x == 42)) := Sq.byte_beq x 42
      have Y47 : Hid (((y.toNat : Int) == 47) = (y == 47)) := Sq.byte_beq y 47
      cases ex : ((x.toNat : Int) == 42) with
      | true =>
        cases ey : ((y.toNat : Int) == 47) with
        | true =>
          have HF : Hid (Sq.comAt s.data.toList false 1 n = k + 2) := by
            rw [Hid, HI.out, Sq.comAt_shut Hx.out Hy.out (by rw [← X42.out]; exact ex) (by rw [← Y47.out]; exact ey) (Nat.le_refl _)]
          go_wp2
          go_ret
          exact ⟨ret_int (by rw [HF.out]; go_num), rfl⟩
        | false =>
          have HF : Hid (Sq.comAt s.data.toList false 1 n = Sq.comAt s.data.toList false 1 (k + 1)) := by
            rw [Hid, HI.out, Sq.comAt_next Hx.out Hy.out (by simp) (by rw [← Y47.out, ey]; simp)]
          go_wp2
          go_round
          case rel => exact ⟨k + 1, by omega, by go_num, HF⟩
          case measure => simp [intOf]; omega
      | false =>
        have HF : Hid (Sq.comAt s.data.toList false 1 n = Sq.comAt s.data.toList false 1 (k + 1)) := by
          rw [Hid, HI.out, Sq.comAt_next Hx.out Hy.out (by simp) (by rw [← X42.out, ex]; simp)]
        go_wp2
        go_round
        case rel => exact ⟨k + 1, by omega, by go_num, HF⟩
        case measure => simp [intOf]; omega
    · have HF : Hid (Sq.comAt s.data.toList false 1 n = s.size) := by rw [Hid, HI.out, Sq.comAt_end (by rw [HL.out]; omega) (by rw [HL.out]; omega), HL.out]
      go_wp2
      go_ret
      exact ⟨ret_int (by rw [HF.out]), rfl⟩

set_option maxHeartbeats 400000 in
theorem hasPrefixAt_any (s p : ByteArray) (i : Nat) (w : World) (hs : s.size ≤ 1048577) (hi : i ≤ s.size) (hps : p.size ≤ 8) (hp1 : 1 ≤ p.size) :
    Calls Try.prog 17 #[.string s, .int .i64 i, .string p] w fun e w' => e = .returned (.bool (Lib.hasPrefix (s.data.toList.drop i) p.data.toList)) ∧ ∃ n, w' = w.drewN n := by
  have HL : Hid (s.data.toList.length = s.size) := (Lib.size_eq s).symm
  have HP : Hid (p.data.toList.length = p.size) := (Lib.size_eq p).symm
  by_cases hsh : s.size - i < p.size
  · have HF : Hid (Lib.hasPrefix (s.data.toList.drop i) p.data.toList = false) := by
      rw [Hid]
      cases h : Lib.hasPrefix (s.data.toList.drop i) p.data.toList with
      | false => rfl
      | true =>
        have := (List.isPrefixOf_iff_prefix.1 h).length_le
        rw [List.length_drop, HL.out, HP.out] at this
        omega
    go_enter Try.func17, Try.ntmps17
    go_wp2
    go_ret
    exact ⟨ret_bool HF.out.symm, 0, rfl⟩
  · go_enter Try.func17, Try.ntmps17
    go_wp2
    go_loopw [7] (fun a wx => ∃ k : Nat, k ≤ p.size ∧ a = .int .i64 k ∧ Hid (Lib.hasPrefix (s.data.toList.drop i) p.data.toList = Lib.hasPrefix (s.data.toList.drop (i + k)) (p.data.toList.drop k)) ∧ ∃ nw, Hid (wx = w.drewN nw)) (fun a _ => p.size - (intOf a).toNat)
    case atStart => exact ⟨0, by omega, rfl, rfl, 0, rfl⟩
    case round =>
      obtain ⟨k, hk, rfl, HI, nw, HW⟩ := hrel
      by_cases hlt : k < p.size
      · have hlt2 : i + k < s.size := by omega
        obtain ⟨x, hx⟩ : ∃ x : UInt8, s[i + k]'hlt2 = x := ⟨_, rfl⟩
        have Hx : Hid (s.data.toList[i + k]? = some x) := by rw [← hx]; exact Lib.data_getElem? s (i + k) hlt2
        obtain ⟨y, hy⟩ : ∃ y : UInt8, p[k]'hlt = y := ⟨_, rfl⟩
        have Hy : Hid (p.data.toList[k]? = some y) := by rw [← hy]; exact Lib.data_getElem? p k hlt
        have hstep : Hid (Lib.hasPrefix (s.data.toList.drop (i + k)) (p.data.toList.drop k) = (y == x && Lib.hasPrefix (s.data.toList.drop (i + (k + 1))) (p.data.toList.drop (k + 1)))) := by
          rw [Hid, Sq.drop_at Hx.out, Sq.drop_at Hy.out]; rfl
        have BX : Hid (((x.toNat : Int) != (y.toNat : Int)) = (x != y)) := Sq.byte_bne x y
        have hwk : IntKind.i64.wrap ((i : Int) + (k : Int)) = (i : Int) + (k : Int) := wrap_small _ (by omega) (by omega)
        have hidx : ∀ wx, (Instr.index 9 (.string s) (.int .i64 ((i : Int) + (k : Int)))).run Try.prog wx = .ok (.int .u8 x.toNat) wx := fun wx => by
          have e := run_index_string (P := Try.prog) (w := wx) 9 s .i64 ((i : Int) + (k : Int)) Try.underlying9
          rw [dif_pos (by omega)] at e
          rw [e]
          simp only [show ((i : Int) + (k : Int)).toNat = i + k from by omega, hx]
        cases exy : ((x.toNat : Int) != (y.toNat : Int)) with
        | true =>
          have HF : Hid (Lib.hasPrefix (s.data.toList.drop i) p.data.toList = false) := by
            have h := BX.out
            rw [exy] at h
            have hne : (y == x) = false := by
              have : x ≠ y := by simpa using h.symm
              exact beq_eq_false_iff_ne.2 fun e => this e.symm
            rw [Hid, HI.out, hstep.out, hne]; rfl
          go_wp2_with fail
          go_quiet (fail)
          go_wp2
          go_ret
          exact ⟨ret_bool HF.out.symm, by rw [HW.out]; exact ⟨_, World.drewN_drewN _ _ _⟩⟩
        | false =>
          have HF : Hid (Lib.hasPrefix (s.data.toList.drop i) p.data.toList = Lib.hasPrefix (s.data.toList.drop (i + (k + 1))) (p.data.toList.drop (k + 1))) := by
            have h := BX.out
            rw [exy] at h
            have : (y == x) = true := by
              have : x = y := by simpa using h.symm
              rw [this]; simp
            rw [Hid, HI.out, hstep.out, this, Bool.true_and]
          go_wp2_with fail
          go_quiet (fail)
          go_wp2
          go_roundw
          case rel => exact ⟨k + 1, by omega, by go_num, HF, by rw [HW.out]; exact ⟨_, World.drewN_drewN _ _ _⟩⟩
          case measure => simp [intOf]; omega
      · have HF : Hid (Lib.hasPrefix (s.data.toList.drop i) p.data.toList = true) := by
          rw [Hid, HI.out, List.drop_eq_nil_of_le (by rw [HP.out]; omega : p.data.toList.length ≤ k)]
          simp [Lib.hasPrefix]
        go_wp2
        go_ret
        exact ⟨ret_bool HF.out.symm, nw, HW.out⟩
end Go.Proofs.Qxb6603812a
