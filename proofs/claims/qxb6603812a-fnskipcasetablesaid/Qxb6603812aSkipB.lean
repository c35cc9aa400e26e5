import Derived.Test.Qxb6603812aSkipA
namespace Go.Proofs.Qxb6603812a
open Go.RowKit
set_option linter.unusedSimpArgs false

theorem Sq.byte_dec (x : UInt8) (n : Nat) (hn : n < 256) : (x == UInt8.ofNat n) = decide (x.toNat = n) := by
  by_cases h : x.toNat = n
  · rw [decide_eq_true h]
    refine beq_iff_eq.2 (UInt8.toNat_inj.1 ?_)
    rw [UInt8.toNat_ofNat']; omega
  · rw [decide_eq_false h]
    refine beq_eq_false_iff_ne.2 fun e => h ?_
    rw [e, UInt8.toNat_ofNat']; omega

theorem Sq.isNS_eq (x : UInt8) : Sq.isNS x = decide (x.toNat = 95 ∨ (97 ≤ x.toNat ∧ x.toNat ≤ 122) ∨ (65 ≤ x.toNat ∧ x.toNat ≤ 90)) := by
  have h := Sq.byte_dec x 95 (by omega)
  unfold Sq.isNS
  rw [show (x == 95) = decide (x.toNat = 95) from h]
  simp only [Bool.decide_or, Bool.decide_and, Bool.or_assoc]

theorem Sq.isDig_eq (x : UInt8) : Sq.isDig x = decide (48 ≤ x.toNat ∧ x.toNat ≤ 57) := by
  unfold Sq.isDig; rw [Bool.decide_and]

theorem Sq.isWS_eq (x : UInt8) : Sq.isWS x = decide (x.toNat = 95 ∨ (97 ≤ x.toNat ∧ x.toNat ≤ 122) ∨ (65 ≤ x.toNat ∧ x.toNat ≤ 90) ∨ 128 ≤ x.toNat) := by
  unfold Sq.isWS; rw [Sq.isNS_eq, ← Bool.decide_or]
  exact decide_eq_decide.2 (by omega)

theorem Sq.isTag_eq (x : UInt8) : Sq.isTag x = decide (x.toNat = 95 ∨ (97 ≤ x.toNat ∧ x.toNat ≤ 122) ∨ (65 ≤ x.toNat ∧ x.toNat ≤ 90) ∨ 128 ≤ x.toNat ∨ (48 ≤ x.toNat ∧ x.toNat ≤ 57)) := by
  unfold Sq.isTag; rw [Sq.isWS_eq, Sq.isDig_eq, ← Bool.decide_or]
  exact decide_eq_decide.2 (by omega)

theorem Sq.isWord_eq (x : UInt8) : Sq.isWord x = decide (x.toNat = 95 ∨ (97 ≤ x.toNat ∧ x.toNat ≤ 122) ∨ (65 ≤ x.toNat ∧ x.toNat ≤ 90) ∨ 128 ≤ x.toNat ∨ (48 ≤ x.toNat ∧ x.toNat ≤ 57) ∨ x.toNat = 36) := by
  unfold Sq.isWord
  rw [Sq.isWS_eq, Sq.isDig_eq, show (x == 36) = decide (x.toNat = 36) from Sq.byte_dec x 36 (by omega), ← Bool.decide_or, ← Bool.decide_or]
  exact decide_eq_decide.2 (by omega)

set_option maxHeartbeats 400000 in
theorem isDigit_any (x : UInt8) (w : World) :
    Calls Try.prog 30 #[.int .u8 x.toNat] w fun e w' => e = .returned (.bool (Sq.isDig x)) ∧ w' = w := by
  have hG : Hid (Sq.isDig x = decide (48 ≤ x.toNat ∧ x.toNat ≤ 57)) := Sq.isDig_eq x
  generalize hn : x.toNat = n at *
  clear hn
  by_cases h1 : 48 ≤ n
  · by_cases h2 : n ≤ 57
    · go_enter Try.func30, Try.ntmps30
      go_wp2
      go_ret
      exact ⟨ret_bool (by rw [hG.out, Bool.eq_iff_iff]; simp only [decide_eq_true_eq, Bool.false_eq_true, iff_false, false_iff, true_iff, iff_true, Bool.false_or, Bool.true_or, Bool.or_eq_true, Bool.and_eq_true]; omega), rfl⟩
    · go_enter Try.func30, Try.ntmps30
      go_wp2
      go_ret
      exact ⟨ret_bool (by rw [hG.out, Bool.eq_iff_iff]; simp only [decide_eq_true_eq, Bool.false_eq_true, iff_false, false_iff, true_iff, iff_true, Bool.false_or, Bool.true_or, Bool.or_eq_true, Bool.and_eq_true]; omega), rfl⟩
  · go_enter Try.func30, Try.ntmps30
    go_wp2
    go_ret
    exact ⟨ret_bool (by rw [hG.out, Bool.eq_iff_iff]; simp only [decide_eq_true_eq, Bool.false_eq_true, iff_false, false_iff, true_iff, iff_true, Bool.false_or, Bool.true_or, Bool.or_eq_true, Bool.and_eq_true]; omega), rfl⟩

set_option maxHeartbeats 400000 in
theorem isNameStart_any (x : UInt8) (w : World) :
    Calls Try.prog 43 #[.int .u8 x.toNat] w fun e w' => e = .returned (.bool (Sq.isNS x)) ∧ w' = w := by
  have hG : Hid (Sq.isNS x = decide (x.toNat = 95 ∨ (97 ≤ x.toNat ∧ x.toNat ≤ 122) ∨ (65 ≤ x.toNat ∧ x.toNat ≤ 90))) := Sq.isNS_eq x
  generalize hn : x.toNat = n at *
  clear hn
  have hc : (n = 95 ∨ (97 ≤ n ∧ n ≤ 122) ∨ (65 ≤ n ∧ n ≤ 90)) ∨ (n < 65 ∨ (90 < n ∧ n < 95) ∨ n = 96 ∨ 122 < n) := by omega
  rcases hc with (h | ⟨h, h'⟩ | ⟨h, h'⟩) | (h | ⟨h, h'⟩ | h | h)
  · have e : ((n : Int) == 95) = true := beq_iff_eq.2 (by omega)
    go_enter Try.func43, Try.ntmps43
    go_wp2
    go_ret
    exact ⟨ret_bool (by rw [hG.out, Bool.eq_iff_iff]; simp only [decide_eq_true_eq, Bool.false_eq_true, iff_false, false_iff, true_iff, iff_true, Bool.false_or, Bool.true_or, Bool.or_eq_true, Bool.and_eq_true]; omega), rfl⟩
  · have e : ((n : Int) == 95) = false := beq_eq_false_iff_ne.2 (by omega)
    go_enter Try.func43, Try.ntmps43
    go_wp2
    go_ret
    exact ⟨ret_bool (by rw [hG.out, Bool.eq_iff_iff]; simp only [decide_eq_true_eq, Bool.false_eq_true, iff_false, false_iff, true_iff, iff_true, Bool.false_or, Bool.true_or, Bool.or_eq_true, Bool.and_eq_true]; omega), rfl⟩
  · have e : ((n : Int) == 95) = false := beq_eq_false_iff_ne.2 (by omega)
    go_enter Try.func43, Try.ntmps43
    go_wp2
    go_ret
    exact ⟨ret_bool (by rw [hG.out, Bool.eq_iff_iff]; simp only [decide_eq_true_eq, Bool.false_eq_true, iff_false, false_iff, true_iff, iff_true, Bool.false_or, Bool.true_or, Bool.or_eq_true, Bool.and_eq_true]; omega), rfl⟩
  all_goals
    have e : ((n : Int) == 95) = false := beq_eq_false_iff_ne.2 (by omega)
    go_enter Try.func43, Try.ntmps43
    go_wp2
    go_ret
    exact ⟨ret_bool (by rw [hG.out, Bool.eq_iff_iff]; simp only [decide_eq_true_eq, Bool.false_eq_true, iff_false, false_iff, true_iff, iff_true, Bool.false_or, Bool.true_or, Bool.or_eq_true, Bool.and_eq_true]; omega), rfl⟩

set_option maxHeartbeats 400000 in
theorem isWordStart_any (x : UInt8) (w : World) :
    Calls Try.prog 37 #[.int .u8 x.toNat] w fun e w' => e = .returned (.bool (Sq.isWS x)) ∧ w' = w := by
  have hG : Hid (Sq.isWS x = (Sq.isNS x || decide (128 ≤ x.toNat))) := rfl
  have hc := isNameStart_any x
  cases hns : Sq.isNS x
  · rw [hns] at hG hc
    have HC : Hid (∀ w, Calls Try.prog 43 #[.int .u8 x.toNat] w fun e w' => e = .returned (.bool false) ∧ w' = w) := hc
    clear hc hns
    by_cases h : 128 ≤ x.toNat
    · go_enter Try.func37, Try.ntmps37
      go_wp2_with (go_at_call 43; refine (HC.out _).mono ?_; rintro e w' ⟨rfl, rfl⟩)
      go_ret
      exact ⟨ret_bool (by rw [hG.out, Bool.eq_iff_iff]; simp only [decide_eq_true_eq, Bool.false_eq_true, iff_false, false_iff, true_iff, iff_true, Bool.false_or, Bool.true_or, Bool.or_eq_true, Bool.and_eq_true]; omega), rfl⟩
    · go_enter Try.func37, Try.ntmps37
      go_wp2_with (go_at_call 43; refine (HC.out _).mono ?_; rintro e w' ⟨rfl, rfl⟩)
      go_ret
      exact ⟨ret_bool (by rw [hG.out, Bool.eq_iff_iff]; simp only [decide_eq_true_eq, Bool.false_eq_true, iff_false, false_iff, true_iff, iff_true, Bool.false_or, Bool.true_or, Bool.or_eq_true, Bool.and_eq_true]; omega), rfl⟩
  · rw [hns] at hG hc
    have HC : Hid (∀ w, Calls Try.prog 43 #[.int .u8 x.toNat] w fun e w' => e = .returned (.bool true) ∧ w' = w) := hc
    clear hc hns
    go_enter Try.func37, Try.ntmps37
    go_wp2_with (go_at_call 43; refine (HC.out _).mono ?_; rintro e w' ⟨rfl, rfl⟩)
    go_ret
    exact ⟨ret_bool (by rw [hG.out]; simp), rfl⟩

/-- Does a word go on at k? -/
def Sq.fwAt (l : List UInt8) (k : Nat) : Bool := match k with
  | 0 => false
  | k + 1 => match l[k]? with
    | some x => Sq.isWord x
    | none => false

set_option maxHeartbeats 400000 in
theorem followsWord_any (s : ByteArray) (i : Nat) (w : World) (hs : s.size ≤ 1048577) (hi : i ≤ s.size) :
    Calls Try.prog 26 #[.string s, .int .i64 i] w fun e w' => e = .returned (.bool (Sq.fwAt s.data.toList i)) ∧ w' = w := by
  cases i with
  | zero =>
    go_enter Try.func26, Try.ntmps26
    go_wp2
    go_ret
    exact ⟨rfl, rfl⟩
  | succ k =>
    have hlt : k < s.size := by omega
    obtain ⟨x, hx⟩ : ∃ x : UInt8, s[k]'hlt = x := ⟨_, rfl⟩
    have hG : Hid (Sq.fwAt s.data.toList (k + 1) = (Sq.isWS x || Sq.isDig x || ((x.toNat : Int) == 36))) := by
      have := Lib.data_getElem? s k hlt
      rw [hx] at this
      rw [Hid, Sq.fwAt, this, show ((x.toNat : Int) == 36) = (x == 36) from Sq.byte_beq x 36]
      rfl
    cases h1 : Sq.isWS x with
    | true =>
      go_enter Try.func26, Try.ntmps26
      go_wp2_with (go_at_call 37; refine (isWordStart_any x _).mono ?_; rintro e w' ⟨rfl, rfl⟩; rw [h1])
      go_ret
      exact ⟨ret_bool (by rw [hG.out, h1]; simp), rfl⟩
    | false =>
      cases h2 : Sq.isDig x with
      | true =>
        go_enter Try.func26, Try.ntmps26
        go_wp2_with (first
          | (go_at_call 37; refine (isWordStart_any x _).mono ?_; rintro e w' ⟨rfl, rfl⟩; rw [h1])
          | (go_at_call 30; refine (isDigit_any x _).mono ?_; rintro e w' ⟨rfl, rfl⟩; rw [h2]))
        go_ret
        exact ⟨ret_bool (by rw [hG.out, h1, h2]; simp), rfl⟩
      | false =>
        go_enter Try.func26, Try.ntmps26
        go_wp2_with (first
          | (go_at_call 37; refine (isWordStart_any x _).mono ?_; rintro e w' ⟨rfl, rfl⟩; rw [h1])
          | (go_at_call 30; refine (isDigit_any x _).mono ?_; rintro e w' ⟨rfl, rfl⟩; rw [h2]))
        go_ret
        exact ⟨ret_bool (by rw [hG.out, h1, h2]; simp), rfl⟩

set_option maxHeartbeats 1000000 in
set_option maxRecDepth 100000 in
/-- commentEnd, where a comment opens. -/
theorem commentEnd_any (s : ByteArray) (i : Nat) (nst : Bool) (w : World) (hs : s.size ≤ 1048577) (hi : i + 1 < s.size) (h47 : s[i] = 47) (h42 : s[i + 1] = 42) :
    Calls Try.prog 31 #[.string s, .int .i64 i, .bool nst] w fun e w' => e = .returned (.int .i64 (Sq.comAt s.data.toList nst 1 (i + 2))) ∧ w' = w := by
  have HL : Hid (s.data.toList.length = s.size) := (Lib.size_eq s).symm
  have H47 : Hid (s[i] = 47) := h47
  have H42 : Hid (s[i + 1] = 42) := h42
  clear h47 h42
  go_enter Try.func31, Try.ntmps31
  go_wp2
  go_loop [1, 7] (fun a b => ∃ k d : Nat, k ≤ s.size ∧ d ≤ k ∧ a = .int .i64 k ∧ b = .int .i64 d ∧ ((d = 0 ∧ k = i) ∨ (1 ≤ d ∧ Hid (Sq.comAt s.data.toList nst d k = Sq.comAt s.data.toList nst 1 (i + 2))))) (fun a _ => s.size - (intOf a).toNat)
  case atStart => exact ⟨i, 0, by omega, by omega, rfl, rfl, .inl ⟨rfl, rfl⟩⟩
  case round =>
    obtain ⟨k, d, hk, hdk, rfl, rfl, hcase⟩ := hrel
    rcases hcase with ⟨rfl, rfl⟩ | ⟨hd, HI⟩
    · have h47 := H47.out
      have h42 := H42.out
      go_wp2
      go_round
      case rel => exact ⟨k + 2, 1, by omega, by omega, by go_num, rfl, .inr ⟨by omega, rfl⟩⟩
      case measure => simp [intOf]; omega
    · by_cases hlt2 : k + 1 < s.size
      · have hlt : k < s.size := by omega
        obtain ⟨x, hx⟩ : ∃ x : UInt8, s[k]'hlt = x := ⟨_, rfl⟩
        have Hx : Hid (s.data.toList[k]? = some x) := by rw [← hx]; exact Lib.data_getElem? s k hlt
        obtain ⟨y, hy⟩ : ∃ y : UInt8, s[k + 1]'hlt2 = y := ⟨_, rfl⟩
        have Hy : Hid (s.data.toList[k + 1]? = some y) := by rw [← hy]; exact Lib.data_getElem? s (k + 1) hlt2
        have X47 : Hid (((x.toNat : Int) == 47) = (x == 47)) := Sq.byte_beq x 47
        have X42 : Hid (((x.toNat : Int) == 42) = (x == 42)) := Sq.byte_beq x 42
        have Y42 : Hid (((y.toNat : Int) == 42) = (y == 42)) := Sq.byte_beq y 42
        have Y47 : Hid (((y.toNat : Int) == 47) = (y == 47)) := Sq.byte_beq y 47
        have hd0 : ((d : Int) == 0) = false := beq_eq_false_iff_ne.2 (by omega)
        cases ex : ((x.toNat : Int) == 47) with
        | true =>
          have nx : ((x.toNat : Int) == 42) = false := by
            have := beq_iff_eq.1 ex
            exact beq_eq_false_iff_ne.2 (by omega)
          cases ey : ((y.toNat : Int) == 42) with
          | true =>
            cases nst with
            | true =>
              have HR := Sq.comAt_up (d := d) Hx.out Hy.out (by rw [← X47.out]; exact ex) (by rw [← Y42.out]; exact ey)
              rw [HI.out] at HR
              have HR' : Hid (Sq.comAt s.data.toList true 1 (i + 2) = Sq.comAt s.data.toList true (d + 1) (k + 2)) := HR
              clear HR
              go_wp2
              go_round
              case rel => exact ⟨k + 2, d + 1, by omega, by omega, by go_num, by go_num, .inr ⟨by omega, HR'.out.symm⟩⟩
              case measure => simp [intOf]; omega
            | false =>
              have HR := Sq.comAt_next (nst := false) (d := d) Hx.out Hy.out (by simp) (by rw [← X42.out, nx]; rfl)
              rw [HI.out] at HR
              have HR' : Hid (Sq.comAt s.data.toList false 1 (i + 2) = Sq.comAt s.data.toList false d (k + 1)) := HR
              clear HR
              go_wp2
              go_round
              case rel => exact ⟨k + 1, d, by omega, by omega, by go_num, rfl, .inr ⟨hd, HR'.out.symm⟩⟩
              case measure => simp [intOf]; omega
          | false =>
            have HR := Sq.comAt_next (nst := nst) (d := d) Hx.out Hy.out (by rw [← Y42.out, ey]; simp) (by rw [← X42.out, nx]; rfl)
            rw [HI.out] at HR
            have HR' : Hid (Sq.comAt s.data.toList nst 1 (i + 2) = Sq.comAt s.data.toList nst d (k + 1)) := HR
            clear HR
            go_wp2
            go_round
            case rel => exact ⟨k + 1, d, by omega, by omega, by go_num, rfl, .inr ⟨hd, HR'.out.symm⟩⟩
            case measure => simp [intOf]; omega
        | false =>
          cases ex2 : ((x.toNat : Int) == 42) with
          | true =>
            cases ey : ((y.toNat : Int) == 47) with
            | true =>
              by_cases hd1 : d ≤ 1
              · have HR := Sq.comAt_shut (nst := nst) (d := d) Hx.out Hy.out (by rw [← X42.out]; exact ex2) (by rw [← Y47.out]; exact ey) hd1
                rw [HI.out] at HR
                have HR' : Hid (Sq.comAt s.data.toList nst 1 (i + 2) = k + 2) := HR
                clear HR
                have hd1' : ((d : Int) - 1 == 0) = true := beq_iff_eq.2 (by omega)
                go_wp2
                go_ret
                exact ⟨ret_int (by rw [HR'.out]; go_num), rfl⟩
              · have HR := Sq.comAt_down (nst := nst) (d := d) Hx.out Hy.out (by rw [← X42.out]; exact ex2) (by rw [← Y47.out]; exact ey) hd1
                rw [HI.out] at HR
                have HR' : Hid (Sq.comAt s.data.toList nst 1 (i + 2) = Sq.comAt s.data.toList nst (d - 1) (k + 2)) := HR
                clear HR
                have hd1' : ((d : Int) - 1 == 0) = false := beq_eq_false_iff_ne.2 (by omega)
                go_wp2
                go_round
                case rel => exact ⟨k + 2, d - 1, by omega, by omega, by go_num, by go_num, .inr ⟨by omega, HR'.out.symm⟩⟩
                case measure => simp [intOf]; omega
            | false =>
              have HR := Sq.comAt_next (nst := nst) (d := d) Hx.out Hy.out (by rw [← X47.out, ex]; rfl) (by rw [← Y47.out, ey]; simp)
              rw [HI.out] at HR
              have HR' : Hid (Sq.comAt s.data.toList nst 1 (i + 2) = Sq.comAt s.data.toList nst d (k + 1)) := HR
              clear HR
              go_wp2
              go_round
              case rel => exact ⟨k + 1, d, by omega, by omega, by go_num, rfl, .inr ⟨hd, HR'.out.symm⟩⟩
              case measure => simp [intOf]; omega
          | false =>
            have HR := Sq.comAt_next (nst := nst) (d := d) Hx.out Hy.out (by rw [← X47.out, ex]; rfl) (by rw [← X42.out, ex2]; rfl)
            rw [HI.out] at HR
            have HR' : Hid (Sq.comAt s.data.toList nst 1 (i + 2) = Sq.comAt s.data.toList nst d (k + 1)) := HR
            clear HR
            go_wp2
            go_round
            case rel => exact ⟨k + 1, d, by omega, by omega, by go_num, rfl, .inr ⟨hd, HR'.out.symm⟩⟩
            case measure => simp [intOf]; omega
      · go_wp2
        go_ret
        exact ⟨ret_int (by rw [← HI.out, Sq.comAt_end (by rw [HL.out]; omega) (by rw [HL.out]; omega), HL.out]), rfl⟩
end Go.Proofs.Qxb6603812a
