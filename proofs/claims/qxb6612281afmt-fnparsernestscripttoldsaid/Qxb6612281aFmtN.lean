import Derived.Test.Qxb6612281aFmtW
namespace Go.Proofs.Qxb6612281aFmt
open Go.RowKit Go.Extern.Stop Go.Stop Go.Extern
set_option linter.unusedVariables false

/-- The depth behind i nests. -/
def dep (d want : Int) (i : Nat) : Int := if (i : Int) ≤ want then d + i else d + want

theorem dep_zero (d want : Int) (h : 0 ≤ want) : dep d want 0 = d := by
  unfold dep; split <;> omega
theorem dep_ok (d want : Int) (i : Nat) (h : (i : Int) < want) : dep d want (i + 1) = dep d want i + 1 := by
  unfold dep; split <;> split <;> omega
theorem dep_no (d want : Int) (i : Nat) (h : ¬ (i : Int) < want) : dep d want (i + 1) = dep d want i := by
  unfold dep; split <;> split <;> omega
theorem dep_end (d want : Int) (i : Nat) (h : want ≤ (i : Int)) : dep d want i = d + want := by
  unfold dep; split <;> omega
theorem dep_low (d want : Int) (i : Nat) (h : (i : Int) < want) (h0 : d + want ≤ 50001) : dep d want i ≤ 50000 := by
  unfold dep; split <;> omega
theorem dep_high (d want : Int) (i : Nat) (h : ¬ (i : Int) < want) (h0 : d + want > 50000) : dep d want i > 50000 := by
  unfold dep; split <;> omega
theorem dep_min (d want : Int) (i : Nat) (h : 0 ≤ want) (h0 : -9223372036854775808 ≤ d) : -9223372036854775808 ≤ dep d want i := by
  unfold dep; split <;> omega

theorem ret_b {a b : Bool} (h : a = b) : Ending.returned (.bool a) = .returned (.bool b) := by rw [h]

set_option maxHeartbeats 2000000 in
set_option maxRecDepth 100000 in
theorem nest_law1 (F : Interp) (w : World) (hF : F.answers w.tape) (a : Option Addr) (l c o K : Nat) (hin : InB w (.slice a l c) l) (hl : l ≤ 9223372036854775807) (d : Int) (hd0 : -9223372036854775808 ≤ d) (hd1 : d ≤ 9223372036854775807) (h1 : l ≤ 1048576) (ho : o ≤ l) (hK : K ≤ 65536) (h : d ≤ 50001 - (K : Int)) :
    Calls Tryf.prog 4 #[.slice a l c, .int .i64 o, .int .i64 d, .int .i64 K] w fun e w' => e = .returned (.bool true) ∧ Below w.heap.size w w' := by
  have e1 : decide (l ≤ 1048576) = true := decide_eq_true h1
  have n1 : ¬ ((l : Int) > 1048576) := by omega
  have n2 : ¬ ((o : Int) < 0) := by omega
  have n3 : ¬ ((o : Int) > (l : Int)) := by omega
  have n4 : ¬ ((K : Int) < 0) := by omega
  have n5 : ¬ ((K : Int) > 65536) := by omega
  have HI : Hid (InB w (.slice a l c) l) := hin
  clear hin
  go_enter Tryf.func4, Tryf.ntmps4
  go_wp2_with (go_at_call 10; refine (bytesNest_any _ a l c o d K hl).mono ?_; rintro e w2 ⟨rfl, rfl⟩; rw [e1])
  refine (clone_any _ _ l HI.out (by omega)).mono ?_
  rintro e w3 ⟨v', rfl, hC, hB3⟩
  obtain ⟨a', l', c', rfl⟩ := hC.shape
  have HC : Hid (Cl w3 (.slice a' l' c') l) := hC
  have HB3 : Hid (Below w2.heap.size w2 w3) := hB3
  clear hC hB3 HI
  go_wp2_with fail
  refine (newParser_b _ a' l' c' 1 o o ⟨#[120]⟩ d).mono ?_
  rintro e w4 ⟨b, rfl, hb, hP4, hB4⟩
  have HB4 : Hid (Below w3.heap.size w3 w4) := Below.onto (((Below.refl _ _).alloc (Nat.le_refl _) _).alloc (by simp) _) hB4
  have hbw : w3.heap.size ≤ b := by simp at hb; omega
  have HP4 : Hid (Par w4 b (.slice a' l' c') 1 o o ⟨#[120]⟩ d) := hP4
  clear hP4 hB4 hb
  go_wp2_with fail
  go_loopw [13] (fun x wx => ∃ i : Nat, i ≤ K ∧ x = .int .i64 i ∧ Hid (Par wx b (.slice a' l' c') 1 o o ⟨#[120]⟩ (dep d (K : Int) i)) ∧ Hid (Below w3.heap.size w3 wx)) (fun x _ => K - (intOf x).toNat)
  case atStart => exact ⟨0, Nat.zero_le _, rfl, by rw [Hid, dep_zero d (K : Int) (by omega)]; exact HP4.out, HB4⟩
  case round =>
    obtain ⟨i, hi, rfl, HP, HB⟩ := hrel
    obtain ⟨D, HD⟩ : ∃ D, Hid (dep d (K : Int) i = D) := ⟨_, rfl⟩
    rw [HD.out] at HP
    have hDm : -9223372036854775808 ≤ D := by rw [← HD.out]; exact dep_min _ _ _ (by omega) hd0
    by_cases hlt : i < K
    · have hlz : (i : Int) < (K : Int) := by omega
      by_cases hw : (i : Int) < (K : Int)
      · have hD : D ≤ 50000 := by rw [← HD.out]; exact dep_low _ _ _ hw (by omega)
        go_wp2_with fail
        refine (znest_ok w3 _ b _ 1 o o D ⟨#[120]⟩ HB.out hbw HP.out hDm hD).mono ?_
        rintro e w6 ⟨rfl, hP6, hB6⟩
        have HP6 : Hid (Par w6 b (.slice a' l' c') 1 o o ⟨#[120]⟩ (dep d (K : Int) (i + 1))) := by rw [Hid, dep_ok d (K : Int) i (by omega), HD.out]; exact hP6
        have HB6 : Hid (Below w3.heap.size w3 w6) := hB6
        clear hP6 hB6 HP HB
        go_wp2
        go_roundw
        case rel => exact ⟨i + 1, by omega, by go_num, HP6, HB6⟩
        case measure => simp [intOf]; omega
      · exact absurd hlz hw
    · have hlz : ¬ (i : Int) < (K : Int) := by omega
      have HE : Hid (D = d + (K : Int)) := by rw [Hid, ← HD.out]; exact dep_end _ _ _ (by omega)
      go_wp2_with fail
      refine (depth_any _ b _ 1 o o ⟨#[120]⟩ D HP.out).mono ?_
      rintro e w9 ⟨rfl, rfl⟩
      have HB9 : Hid (Below w2.heap.size w2 w9) := Below.onto HB3.out HB.out
      clear HP HB
      go_wp2
      go_ret
      exact ⟨ret_b (by simpa using HE.out), HB9.out⟩

set_option maxHeartbeats 2000000 in
set_option maxRecDepth 100000 in
theorem nest_law2 (F : Interp) (w : World) (hF : F.answers w.tape) (a : Option Addr) (l c o K : Nat) (hin : InB w (.slice a l c) l) (hl : l ≤ 9223372036854775807) (d : Int) (hd0 : -9223372036854775808 ≤ d) (hd1 : d ≤ 9223372036854775807) (h1 : l ≤ 1048576) (ho : o ≤ l) (hK : K ≤ 65536) (h : ¬ d ≤ 50001 - (K : Int)) (h' : d ≤ 50001) :
    Calls Tryf.prog 4 #[.slice a l c, .int .i64 o, .int .i64 d, .int .i64 K] w fun e w' => e = .returned (.bool true) ∧ Below w.heap.size w w' := by
  have e1 : decide (l ≤ 1048576) = true := decide_eq_true h1
  have n1 : ¬ ((l : Int) > 1048576) := by omega
  have n2 : ¬ ((o : Int) < 0) := by omega
  have n3 : ¬ ((o : Int) > (l : Int)) := by omega
  have n4 : ¬ ((K : Int) < 0) := by omega
  have n5 : ¬ ((K : Int) > 65536) := by omega
  have HI : Hid (InB w (.slice a l c) l) := hin
  clear hin
  go_enter Tryf.func4, Tryf.ntmps4
  go_wp2_with (go_at_call 10; refine (bytesNest_any _ a l c o d K hl).mono ?_; rintro e w2 ⟨rfl, rfl⟩; rw [e1])
  refine (clone_any _ _ l HI.out (by omega)).mono ?_
  rintro e w3 ⟨v', rfl, hC, hB3⟩
  obtain ⟨a', l', c', rfl⟩ := hC.shape
  have HC : Hid (Cl w3 (.slice a' l' c') l) := hC
  have HB3 : Hid (Below w2.heap.size w2 w3) := hB3
  clear hC hB3 HI
  go_wp2_with fail
  refine (newParser_b _ a' l' c' 1 o o ⟨#[120]⟩ d).mono ?_
  rintro e w4 ⟨b, rfl, hb, hP4, hB4⟩
  have HB4 : Hid (Below w3.heap.size w3 w4) := Below.onto (((Below.refl _ _).alloc (Nat.le_refl _) _).alloc (by simp) _) hB4
  have hbw : w3.heap.size ≤ b := by simp at hb; omega
  have HP4 : Hid (Par w4 b (.slice a' l' c') 1 o o ⟨#[120]⟩ d) := hP4
  clear hP4 hB4 hb
  go_wp2_with fail
  go_loopw [13] (fun x wx => ∃ i : Nat, i ≤ K ∧ x = .int .i64 i ∧ Hid (Par wx b (.slice a' l' c') 1 o o ⟨#[120]⟩ (dep d (50001 - d) i)) ∧ Hid (Below w3.heap.size w3 wx)) (fun x _ => K - (intOf x).toNat)
  case atStart => exact ⟨0, Nat.zero_le _, rfl, by rw [Hid, dep_zero d (50001 - d) (by omega)]; exact HP4.out, HB4⟩
  case round =>
    obtain ⟨i, hi, rfl, HP, HB⟩ := hrel
    obtain ⟨D, HD⟩ : ∃ D, Hid (dep d (50001 - d) i = D) := ⟨_, rfl⟩
    rw [HD.out] at HP
    have hDm : -9223372036854775808 ≤ D := by rw [← HD.out]; exact dep_min _ _ _ (by omega) hd0
    by_cases hlt : i < K
    · have hlz : (i : Int) < (K : Int) := by omega
      by_cases hw : (i : Int) < (50001 - d)
      · have hD : D ≤ 50000 := by rw [← HD.out]; exact dep_low _ _ _ hw (by omega)
        go_wp2_with fail
        refine (znest_ok w3 _ b _ 1 o o D ⟨#[120]⟩ HB.out hbw HP.out hDm hD).mono ?_
        rintro e w6 ⟨rfl, hP6, hB6⟩
        have HP6 : Hid (Par w6 b (.slice a' l' c') 1 o o ⟨#[120]⟩ (dep d (50001 - d) (i + 1))) := by rw [Hid, dep_ok d (50001 - d) i (by omega), HD.out]; exact hP6
        have HB6 : Hid (Below w3.heap.size w3 w6) := hB6
        clear hP6 hB6 HP HB
        go_wp2
        go_roundw
        case rel => exact ⟨i + 1, by omega, by go_num, HP6, HB6⟩
        case measure => simp [intOf]; omega
      · have hD : D > 50000 := by rw [← HD.out]; exact dep_high _ _ _ hw (by omega)
        go_wp2_with fail
        refine (znest_refuse F w3 _ (by rw [HB3.out.tape]; exact hF) b a' l' c' l o 1 o D ⟨#[120]⟩ HB.out HP.out HC.out ho (by omega) hD).mono ?_
        rintro e w6 ⟨j, rfl, hP6, hB6⟩
        have HP6 : Hid (Par w6 b (.slice a' l' c') 1 o o ⟨#[120]⟩ (dep d (50001 - d) (i + 1))) := by rw [Hid, dep_no d (50001 - d) i (by omega), HD.out]; exact hP6
        have HB6 : Hid (Below w3.heap.size w3 w6) := hB6
        clear hP6 hB6 HP HB
        go_wp2
        go_roundw
        case rel => exact ⟨i + 1, by omega, by go_num, HP6, HB6⟩
        case measure => simp [intOf]; omega
    · have hlz : ¬ (i : Int) < (K : Int) := by omega
      have HE : Hid (D = d + (50001 - d)) := by rw [Hid, ← HD.out]; exact dep_end _ _ _ (by omega)
      go_wp2_with fail
      refine (depth_any _ b _ 1 o o ⟨#[120]⟩ D HP.out).mono ?_
      rintro e w9 ⟨rfl, rfl⟩
      have HB9 : Hid (Below w2.heap.size w2 w9) := Below.onto HB3.out HB.out
      clear HP HB
      go_wp2
      go_ret
      exact ⟨ret_b (by simpa using HE.out), HB9.out⟩

set_option maxHeartbeats 2000000 in
set_option maxRecDepth 100000 in
theorem nest_law3 (F : Interp) (w : World) (hF : F.answers w.tape) (a : Option Addr) (l c o K : Nat) (hin : InB w (.slice a l c) l) (hl : l ≤ 9223372036854775807) (d : Int) (hd0 : -9223372036854775808 ≤ d) (hd1 : d ≤ 9223372036854775807) (h1 : l ≤ 1048576) (ho : o ≤ l) (hK : K ≤ 65536) (h : ¬ d ≤ 50001 - (K : Int)) (h' : ¬ d ≤ 50001) :
    Calls Tryf.prog 4 #[.slice a l c, .int .i64 o, .int .i64 d, .int .i64 K] w fun e w' => e = .returned (.bool true) ∧ Below w.heap.size w w' := by
  have e1 : decide (l ≤ 1048576) = true := decide_eq_true h1
  have n1 : ¬ ((l : Int) > 1048576) := by omega
  have n2 : ¬ ((o : Int) < 0) := by omega
  have n3 : ¬ ((o : Int) > (l : Int)) := by omega
  have n4 : ¬ ((K : Int) < 0) := by omega
  have n5 : ¬ ((K : Int) > 65536) := by omega
  have HI : Hid (InB w (.slice a l c) l) := hin
  clear hin
  go_enter Tryf.func4, Tryf.ntmps4
  go_wp2_with (go_at_call 10; refine (bytesNest_any _ a l c o d K hl).mono ?_; rintro e w2 ⟨rfl, rfl⟩; rw [e1])
  refine (clone_any _ _ l HI.out (by omega)).mono ?_
  rintro e w3 ⟨v', rfl, hC, hB3⟩
  obtain ⟨a', l', c', rfl⟩ := hC.shape
  have HC : Hid (Cl w3 (.slice a' l' c') l) := hC
  have HB3 : Hid (Below w2.heap.size w2 w3) := hB3
  clear hC hB3 HI
  go_wp2_with fail
  refine (newParser_b _ a' l' c' 1 o o ⟨#[120]⟩ d).mono ?_
  rintro e w4 ⟨b, rfl, hb, hP4, hB4⟩
  have HB4 : Hid (Below w3.heap.size w3 w4) := Below.onto (((Below.refl _ _).alloc (Nat.le_refl _) _).alloc (by simp) _) hB4
  have hbw : w3.heap.size ≤ b := by simp at hb; omega
  have HP4 : Hid (Par w4 b (.slice a' l' c') 1 o o ⟨#[120]⟩ d) := hP4
  clear hP4 hB4 hb
  go_wp2_with fail
  go_loopw [13] (fun x wx => ∃ i : Nat, i ≤ K ∧ x = .int .i64 i ∧ Hid (Par wx b (.slice a' l' c') 1 o o ⟨#[120]⟩ (dep d (0 : Int) i)) ∧ Hid (Below w3.heap.size w3 wx)) (fun x _ => K - (intOf x).toNat)
  case atStart => exact ⟨0, Nat.zero_le _, rfl, by rw [Hid, dep_zero d (0 : Int) (by omega)]; exact HP4.out, HB4⟩
  case round =>
    obtain ⟨i, hi, rfl, HP, HB⟩ := hrel
    obtain ⟨D, HD⟩ : ∃ D, Hid (dep d (0 : Int) i = D) := ⟨_, rfl⟩
    rw [HD.out] at HP
    have hDm : -9223372036854775808 ≤ D := by rw [← HD.out]; exact dep_min _ _ _ (by omega) hd0
    by_cases hlt : i < K
    · have hlz : (i : Int) < (K : Int) := by omega
      by_cases hw : (i : Int) < (0 : Int)
      · exact absurd hw (by omega)
      · have hD : D > 50000 := by rw [← HD.out]; exact dep_high _ _ _ hw (by omega)
        go_wp2_with fail
        refine (znest_refuse F w3 _ (by rw [HB3.out.tape]; exact hF) b a' l' c' l o 1 o D ⟨#[120]⟩ HB.out HP.out HC.out ho (by omega) hD).mono ?_
        rintro e w6 ⟨j, rfl, hP6, hB6⟩
        have HP6 : Hid (Par w6 b (.slice a' l' c') 1 o o ⟨#[120]⟩ (dep d (0 : Int) (i + 1))) := by rw [Hid, dep_no d (0 : Int) i (by omega), HD.out]; exact hP6
        have HB6 : Hid (Below w3.heap.size w3 w6) := hB6
        clear hP6 hB6 HP HB
        go_wp2
        go_roundw
        case rel => exact ⟨i + 1, by omega, by go_num, HP6, HB6⟩
        case measure => simp [intOf]; omega
    · have hlz : ¬ (i : Int) < (K : Int) := by omega
      have HE : Hid (D = d + (0 : Int)) := by rw [Hid, ← HD.out]; exact dep_end _ _ _ (by omega)
      go_wp2_with fail
      refine (depth_any _ b _ 1 o o ⟨#[120]⟩ D HP.out).mono ?_
      rintro e w9 ⟨rfl, rfl⟩
      have HB9 : Hid (Below w2.heap.size w2 w9) := Below.onto HB3.out HB.out
      clear HP HB
      go_wp2
      go_ret
      exact ⟨ret_b (by simpa using HE.out), HB9.out⟩

set_option maxHeartbeats 2000000 in
set_option maxRecDepth 100000 in
theorem nest_law (F : Interp) (w : World) (hF : F.answers w.tape) (a : Option Addr) (l c : Nat) (hin : InB w (.slice a l c) l) (hl : l ≤ 9223372036854775807) (st d k : Int) (hd0 : -9223372036854775808 ≤ d) (hd1 : d ≤ 9223372036854775807) :
    Calls Tryf.prog 4 #[.slice a l c, .int .i64 st, .int .i64 d, .int .i64 k] w fun e w' => e = .returned (.bool true) ∧ Below w.heap.size w w' := by
  by_cases h1 : l ≤ 1048576
  · have e1 : decide (l ≤ 1048576) = true := decide_eq_true h1
    have n1 : ¬ ((l : Int) > 1048576) := by omega
    by_cases h2 : st < 0
    · go_enter Tryf.func4, Tryf.ntmps4
      go_wp2_with (go_at_call 10; refine (bytesNest_any _ a l c st d k hl).mono ?_; rintro e w2 ⟨rfl, rfl⟩; rw [e1])
      go_ret
      exact ⟨rfl, Below.refl _ _⟩
    · by_cases h3 : st > (l : Int)
      · go_enter Tryf.func4, Tryf.ntmps4
        go_wp2_with (go_at_call 10; refine (bytesNest_any _ a l c st d k hl).mono ?_; rintro e w2 ⟨rfl, rfl⟩; rw [e1])
        go_ret
        exact ⟨rfl, Below.refl _ _⟩
      · by_cases h4 : k < 0
        · go_enter Tryf.func4, Tryf.ntmps4
          go_wp2_with (go_at_call 10; refine (bytesNest_any _ a l c st d k hl).mono ?_; rintro e w2 ⟨rfl, rfl⟩; rw [e1])
          go_ret
          exact ⟨rfl, Below.refl _ _⟩
        · by_cases h5 : k > 65536
          · go_enter Tryf.func4, Tryf.ntmps4
            go_wp2_with (go_at_call 10; refine (bytesNest_any _ a l c st d k hl).mono ?_; rintro e w2 ⟨rfl, rfl⟩; rw [e1])
            go_ret
            exact ⟨rfl, Below.refl _ _⟩
          · obtain ⟨o, rfl⟩ : ∃ o : Nat, st = o := ⟨st.toNat, by omega⟩
            obtain ⟨K, rfl⟩ : ∃ K : Nat, k = K := ⟨k.toNat, by omega⟩
            by_cases h : d ≤ 50001 - (K : Int)
            · exact nest_law1 F w hF a l c o K hin hl d hd0 hd1 h1 (by omega) (by omega) h
            · by_cases h' : d ≤ 50001
              · exact nest_law2 F w hF a l c o K hin hl d hd0 hd1 h1 (by omega) (by omega) h h'
              · exact nest_law3 F w hF a l c o K hin hl d hd0 hd1 h1 (by omega) (by omega) h h'
  · have e1 : decide (l ≤ 1048576) = false := decide_eq_false h1
    go_enter Tryf.func4, Tryf.ntmps4
    go_wp2_with (go_at_call 10; refine (bytesNest_any _ a l c st d k hl).mono ?_; rintro e w2 ⟨rfl, rfl⟩; rw [e1])
    go_ret
    exact ⟨rfl, Below.refl _ _⟩
end Go.Proofs.Qxb6612281aFmt
