import Derived.Test.Qxb6612281aFmtD
namespace Go.Proofs.Qxb6612281aFmt
open Go.RowKit Go.Extern.Stop Go.Stop Go.Extern
set_option linter.unusedVariables false

theorem Cl.shape {w : World} {v : Value} {n : Nat} (h : Cl w v n) : ∃ a l c, v = .slice a l c := by
  rcases h with ⟨rfl, _⟩ | ⟨H, bs, rfl, _⟩
  · exact ⟨_, _, _, rfl⟩
  · exact ⟨_, _, _, rfl⟩

/-- A parser that is new. -/
def NewPost (w : World) (src : Value) (k st en : Int) (val : ByteArray) (d : Int) (e : Ending) (w' : World) : Prop :=
  ∃ b : Nat, e = .returned (.pointer (some ⟨b, 0, none⟩)) ∧ w.heap.size ≤ b ∧ Par w' b src k st en val d ∧ Below w.heap.size w w'

theorem newParser_b (w : World) (a : Option Addr) (n c : Nat) (k st en : Int) (val : ByteArray) (d : Int) :
    Calls Tryf.prog 7 #[.slice a n c, .agg #[.int .u8 k, .int .i64 st, .int .i64 en, .string val], .agg #[.int .u8 0, .int .i64 0, .int .i64 0, .string ⟨#[]⟩], .agg #[.int .u8 0, .int .i64 0, .int .i64 0, .string ⟨#[]⟩], .int .i64 0, .int .i64 0, .int .i64 d, .bool false] w
      (NewPost w (.slice a n c) k st en val d) := by
  refine (newParser_any w a n c k st en val d).mono ?_
  rintro e w' ⟨rfl, hP, hB⟩
  exact ⟨_, rfl, by omega, hP, hB⟩

set_option maxHeartbeats 2000000 in
set_option maxRecDepth 100000 in
theorem word_law (F : Interp) (w : World) (hF : F.answers w.tape) (a : Option Addr) (l c : Nat) (hin : InB w (.slice a l c) l) (hl : l ≤ 9223372036854775807) (k st en d : Int) (val : ByteArray) (hv : val.size ≤ 9223372036854775807) (hd0 : -9223372036854775808 ≤ d) :
    Calls Tryf.prog 3 #[.slice a l c, .int .u8 k, .int .i64 st, .int .i64 en, .string val, .int .i64 d] w fun e w' => e = .returned (.bool true) ∧ Below w.heap.size w w' := by
  by_cases h1 : l + val.size ≤ 1048576
  · have e1 : decide (l + val.size ≤ 1048576) = true := decide_eq_true h1
    have n1 : ¬ ((l : Int) > 1048576) := by omega
    have n2 : ¬ ((val.size : Int) > 1048576) := by omega
    have n3 : ¬ ((l : Int) + (val.size : Int) > 1048576) := by omega
    by_cases h2 : st < 0
    · go_enter Tryf.func3, Tryf.ntmps3
      go_wp2_with (go_at_call 5; refine (bytesWord_any _ a l c k st en val d hl hv).mono ?_; rintro e w2 ⟨rfl, rfl⟩; rw [e1])
      go_ret
      exact ⟨rfl, Below.refl _ _⟩
    · by_cases h3 : st > (l : Int)
      · go_enter Tryf.func3, Tryf.ntmps3
        go_wp2_with (go_at_call 5; refine (bytesWord_any _ a l c k st en val d hl hv).mono ?_; rintro e w2 ⟨rfl, rfl⟩; rw [e1])
        go_ret
        exact ⟨rfl, Below.refl _ _⟩
      · obtain ⟨o, rfl⟩ : ∃ o : Nat, st = o := ⟨st.toNat, by omega⟩
        have ho : o ≤ l := by omega
        have HI : Hid (InB w (.slice a l c) l) := hin
        clear hin
        go_enter Tryf.func3, Tryf.ntmps3
        go_wp2_with (go_at_call 5; refine (bytesWord_any _ a l c k o en val d hl hv).mono ?_; rintro e w2 ⟨rfl, rfl⟩; rw [e1])
        refine (clone_any _ _ l HI.out (by omega)).mono ?_
        rintro e w3 ⟨v', rfl, hC, hB3⟩
        obtain ⟨a', l', c', rfl⟩ := hC.shape
        have HC : Hid (Cl w3 (.slice a' l' c') l) := hC
        have HB3 : Hid (Below w2.heap.size w2 w3) := hB3
        clear hC hB3 HI
        by_cases hd : d ≤ 50000
        · by_cases hk : k = 1
          · subst hk
            go_wp2_with fail
            refine (newParser_b _ a' l' c' 1 o en val d).mono ?_
            rintro e w4 ⟨b, rfl, hb, hP4, hB4⟩
            have HB4 : Hid (Below w3.heap.size w3 w4) := Below.onto (((Below.refl _ _).alloc (Nat.le_refl _) _).alloc (by simp) _) hB4
            have hbw : w3.heap.size ≤ b := by simp at hb; omega
            have HP4 : Hid (Par w4 b (.slice a' l' c') 1 o en val d) := hP4
            clear hP4 hB4 hb
            go_wp2_with fail
            refine (word_any _ b _ 1 o en val d HP4.out).mono ?_
            rintro e w5 ⟨rfl, hB5⟩
            rw [show wordS 1 val = val from rfl]
            have HP5 : Hid (Par w5 b (.slice a' l' c') 1 o en val d) := HP4.out.later hB5
            have HB5 : Hid (Below w3.heap.size w3 w5) := Below.onto HB4.out hB5
            clear hB5 HP4 HB4
            go_wp2_with fail
            refine (znest_ok w3 _ b _ 1 o en d val HB5.out hbw HP5.out hd0 hd).mono ?_
            rintro e w6 ⟨rfl, hP6, hB6⟩
            have HP6 : Hid (Par w6 b (.slice a' l' c') 1 o en val (d + 1)) := hP6
            have HB6 : Hid (Below w3.heap.size w3 w6) := hB6
            clear hP6 hB6 HP5 HB5
            go_wp2_with fail
            refine (word_any _ b _ 1 o en val _ HP6.out).mono ?_
            rintro e w7 ⟨rfl, hB7⟩
            rw [show wordS 1 val = val from rfl]
            have HP7 : Hid (Par w7 b (.slice a' l' c') 1 o en val _) := HP6.out.later hB7
            have HB7 : Hid (Below w3.heap.size w3 w7) := Below.onto HB6.out hB7
            clear hB7 HP6 HB6
            go_wp2_with fail
            refine (word_any _ b _ 1 o en val _ HP7.out).mono ?_
            rintro e w8 ⟨rfl, hB8⟩
            rw [show wordS 1 val = val from rfl]
            have HB8 : Hid (Below w2.heap.size w2 w8) := Below.onto HB3.out (Below.onto HB7.out hB8)
            clear hB8 HP7 HB7
            go_wp2
            go_ret
            exact ⟨rfl, HB8.out⟩
          · have hkf : (k == 1) = false := by simpa using hk
            have hw : wordS k val = ⟨#[]⟩ := if_neg hk
            go_wp2_with fail
            refine (newParser_b _ a' l' c' k o en val d).mono ?_
            rintro e w4 ⟨b, rfl, hb, hP4, hB4⟩
            have HB4 : Hid (Below w3.heap.size w3 w4) := Below.onto (((Below.refl _ _).alloc (Nat.le_refl _) _).alloc (by simp) _) hB4
            have hbw : w3.heap.size ≤ b := by simp at hb; omega
            have HP4 : Hid (Par w4 b (.slice a' l' c') k o en val d) := hP4
            clear hP4 hB4 hb
            go_wp2_with fail
            refine (word_any _ b _ k o en val d HP4.out).mono ?_
            rintro e w5 ⟨rfl, hB5⟩
            rw [hw]
            have HP5 : Hid (Par w5 b (.slice a' l' c') k o en val d) := HP4.out.later hB5
            have HB5 : Hid (Below w3.heap.size w3 w5) := Below.onto HB4.out hB5
            clear hB5 HP4 HB4
            go_wp2_with fail
            refine (znest_ok w3 _ b _ k o en d val HB5.out hbw HP5.out hd0 hd).mono ?_
            rintro e w6 ⟨rfl, hP6, hB6⟩
            have HP6 : Hid (Par w6 b (.slice a' l' c') k o en val (d + 1)) := hP6
            have HB6 : Hid (Below w3.heap.size w3 w6) := hB6
            clear hP6 hB6 HP5 HB5
            go_wp2_with fail
            refine (word_any _ b _ k o en val _ HP6.out).mono ?_
            rintro e w7 ⟨rfl, hB7⟩
            rw [hw]
            have HP7 : Hid (Par w7 b (.slice a' l' c') k o en val _) := HP6.out.later hB7
            have HB7 : Hid (Below w3.heap.size w3 w7) := Below.onto HB6.out hB7
            clear hB7 HP6 HB6
            go_wp2_with fail
            refine (word_any _ b _ k o en val _ HP7.out).mono ?_
            rintro e w8 ⟨rfl, hB8⟩
            rw [hw]
            have HB8 : Hid (Below w2.heap.size w2 w8) := Below.onto HB3.out (Below.onto HB7.out hB8)
            clear hB8 HP7 HB7
            go_wp2
            go_ret
            exact ⟨rfl, HB8.out⟩
        · have hd1 : d > 50000 := by omega
          by_cases hk : k = 1
          · subst hk
            go_wp2_with fail
            refine (newParser_b _ a' l' c' 1 o en val d).mono ?_
            rintro e w4 ⟨b, rfl, hb, hP4, hB4⟩
            have HB4 : Hid (Below w3.heap.size w3 w4) := Below.onto (((Below.refl _ _).alloc (Nat.le_refl _) _).alloc (by simp) _) hB4
            have hbw : w3.heap.size ≤ b := by simp at hb; omega
            have HP4 : Hid (Par w4 b (.slice a' l' c') 1 o en val d) := hP4
            clear hP4 hB4 hb
            go_wp2_with fail
            refine (word_any _ b _ 1 o en val d HP4.out).mono ?_
            rintro e w5 ⟨rfl, hB5⟩
            rw [show wordS 1 val = val from rfl]
            have HP5 : Hid (Par w5 b (.slice a' l' c') 1 o en val d) := HP4.out.later hB5
            have HB5 : Hid (Below w3.heap.size w3 w5) := Below.onto HB4.out hB5
            clear hB5 HP4 HB4
            go_wp2_with fail
            refine (znest_refuse F w3 _ (by rw [HB3.out.tape]; exact hF) b a' l' c' l o 1 en d val HB5.out HP5.out HC.out ho (by omega) (by omega)).mono ?_
            rintro e w6 ⟨j, rfl, hP6, hB6⟩
            have HP6 : Hid (Par w6 b (.slice a' l' c') 1 o en val d) := hP6
            have HB6 : Hid (Below w3.heap.size w3 w6) := hB6
            clear hP6 hB6 HP5 HB5
            go_wp2_with fail
            refine (word_any _ b _ 1 o en val _ HP6.out).mono ?_
            rintro e w7 ⟨rfl, hB7⟩
            rw [show wordS 1 val = val from rfl]
            have HP7 : Hid (Par w7 b (.slice a' l' c') 1 o en val _) := HP6.out.later hB7
            have HB7 : Hid (Below w3.heap.size w3 w7) := Below.onto HB6.out hB7
            clear hB7 HP6 HB6
            go_wp2_with fail
            refine (word_any _ b _ 1 o en val _ HP7.out).mono ?_
            rintro e w8 ⟨rfl, hB8⟩
            rw [show wordS 1 val = val from rfl]
            have HB8 : Hid (Below w2.heap.size w2 w8) := Below.onto HB3.out (Below.onto HB7.out hB8)
            clear hB8 HP7 HB7
            go_wp2
            go_ret
            exact ⟨(by show Ending.returned (.bool (!decide (d ≤ 50000))) = _; rw [decide_eq_false (show ¬ d ≤ 50000 from by omega)]; rfl), HB8.out⟩
          · have hkf : (k == 1) = false := by simpa using hk
            have hw : wordS k val = ⟨#[]⟩ := if_neg hk
            go_wp2_with fail
            refine (newParser_b _ a' l' c' k o en val d).mono ?_
            rintro e w4 ⟨b, rfl, hb, hP4, hB4⟩
            have HB4 : Hid (Below w3.heap.size w3 w4) := Below.onto (((Below.refl _ _).alloc (Nat.le_refl _) _).alloc (by simp) _) hB4
            have hbw : w3.heap.size ≤ b := by simp at hb; omega
            have HP4 : Hid (Par w4 b (.slice a' l' c') k o en val d) := hP4
            clear hP4 hB4 hb
            go_wp2_with fail
            refine (word_any _ b _ k o en val d HP4.out).mono ?_
            rintro e w5 ⟨rfl, hB5⟩
            rw [hw]
            have HP5 : Hid (Par w5 b (.slice a' l' c') k o en val d) := HP4.out.later hB5
            have HB5 : Hid (Below w3.heap.size w3 w5) := Below.onto HB4.out hB5
            clear hB5 HP4 HB4
            go_wp2_with fail
            refine (znest_refuse F w3 _ (by rw [HB3.out.tape]; exact hF) b a' l' c' l o k en d val HB5.out HP5.out HC.out ho (by omega) (by omega)).mono ?_
            rintro e w6 ⟨j, rfl, hP6, hB6⟩
            have HP6 : Hid (Par w6 b (.slice a' l' c') k o en val d) := hP6
            have HB6 : Hid (Below w3.heap.size w3 w6) := hB6
            clear hP6 hB6 HP5 HB5
            go_wp2_with fail
            refine (word_any _ b _ k o en val _ HP6.out).mono ?_
            rintro e w7 ⟨rfl, hB7⟩
            rw [hw]
            have HP7 : Hid (Par w7 b (.slice a' l' c') k o en val _) := HP6.out.later hB7
            have HB7 : Hid (Below w3.heap.size w3 w7) := Below.onto HB6.out hB7
            clear hB7 HP6 HB6
            go_wp2_with fail
            refine (word_any _ b _ k o en val _ HP7.out).mono ?_
            rintro e w8 ⟨rfl, hB8⟩
            rw [hw]
            have HB8 : Hid (Below w2.heap.size w2 w8) := Below.onto HB3.out (Below.onto HB7.out hB8)
            clear hB8 HP7 HB7
            go_wp2
            go_ret
            exact ⟨(by show Ending.returned (.bool (!decide (d ≤ 50000))) = _; rw [decide_eq_false (show ¬ d ≤ 50000 from by omega)]; rfl), HB8.out⟩
  · have e1 : decide (l + val.size ≤ 1048576) = false := decide_eq_false h1
    go_enter Tryf.func3, Tryf.ntmps3
    go_wp2_with (go_at_call 5; refine (bytesWord_any _ a l c k st en val d hl hv).mono ?_; rintro e w2 ⟨rfl, rfl⟩; rw [e1])
    go_ret
    exact ⟨rfl, Below.refl _ _⟩
end Go.Proofs.Qxb6612281aFmt
