import Derived.Test.Qxb6603812aSkipI
namespace Go.Proofs.Qxb6603812a
open Go.RowKit
set_option linter.unusedSimpArgs false
namespace Sq

theorem dol_le (l : List UInt8) (h : l ≠ []) : dol l ≤ l.length := by
  have hl : 1 ≤ l.length := List.length_pos_iff.2 h
  have e0 : dolAt l 0 = dol l := by unfold dolAt; rw [List.drop_zero]; omega
  rw [← e0]
  by_cases h36 : l[dolJ l 0]? = some 36
  · rw [dolAt_yes rfl h36]
    have hlt : dolJ l 0 < l.length := (List.getElem?_eq_some_iff.1 h36).1
    split
    · omega
    · rename_i he
      have hb := index_bound (l.drop (dolJ l 0 + 1)) ((l.drop 0).take (dolJ l 0 + 1 - 0)) (by omega)
      simp only [List.length_drop, List.length_take] at hb
      omega
  · rw [dolAt_no rfl h36]; omega

theorem lineEnd_le (l : List UInt8) (h : l ≠ []) : lineEnd l ≤ l.length := by
  have := indexByte_lt l 10 h
  unfold lineEnd
  split <;> omega

theorem skp_le (f : Fl) (fw : Bool) (l : List UInt8) (h : l ≠ []) : skp f fw l ≤ l.length := by
  have hl : 1 ≤ l.length := List.length_pos_iff.2 h
  unfold skp
  split
  · have := clos_le (l.headD 0) f.bs (l.drop 1)
    rw [List.length_drop] at this; omega
  · split
    · have := clos_le 96 false (l.drop 1)
      rw [List.length_drop] at this; omega
    · split
      · rename_i hE
        have h2 : 2 ≤ l.length := by
          simp only [cE, Bool.and_eq_true, Bool.or_eq_true] at hE
          rcases hE.1.2 with hp | hp
          · obtain ⟨t, rfl⟩ := pre_split hp; simp
          · obtain ⟨t, rfl⟩ := pre_split hp; simp
        have := esc_le ((l.drop 2).length + 1) (l.drop 2)
        unfold escOf
        rw [List.length_drop] at *; omega
      · split
        · exact dol_le l h
        · split
          · exact lineEnd_le l h
          · split
            · rename_i hX
              simp only [cX, Bool.and_eq_true, Bool.or_eq_true] at hX
              rcases hX.2 with hp | hp
              · obtain ⟨a, b⟩ := index_x3 hp
                have := runAt_le isDig l 3 (by omega)
                rw [a]; exact this.2
              · obtain ⟨a, b⟩ := index_x4 hp
                have := runAt_le isDig l 4 (by omega)
                rw [a]; exact this.2
            · split
              · rename_i hC
                obtain ⟨t, rfl⟩ := pre_split hC
                have := com_le f.nc (List.drop 2 ([47, 42] ++ t)) 1
                simp only [List.length_drop, List.length_append, List.length_cons, List.length_nil] at *
                omega
              · omega

theorem fwAt_drop (l : List UInt8) (k : Nat) : fwAt (l.drop k) 1 = fwAt l (k + 1) := by
  unfold fwAt
  simp only [List.getElem?_drop, Nat.add_zero]
end Sq

set_option maxHeartbeats 400000 in
theorem isWordByte_any (x : UInt8) (w : World) :
    Calls Try.prog 15 #[.int .u8 x.toNat] w fun e w' => e = .returned (.bool (Sq.isWord x)) ∧ w' = w := by
  have hG : Hid (Sq.isWord x = decide (x.toNat = 95 ∨ (97 ≤ x.toNat ∧ x.toNat ≤ 122) ∨ (65 ≤ x.toNat ∧ x.toNat ≤ 90) ∨ 128 ≤ x.toNat ∨ (48 ≤ x.toNat ∧ x.toNat ≤ 57) ∨ x.toNat = 36)) := Sq.isWord_eq x
  generalize hn : x.toNat = n at *
  clear hn
  have hc : n < 36 ∨ n = 36 ∨ (36 < n ∧ n < 48) ∨ (48 ≤ n ∧ n ≤ 57) ∨ (57 < n ∧ n < 65) ∨ (65 ≤ n ∧ n ≤ 90) ∨ (90 < n ∧ n < 95) ∨ n = 95 ∨ n = 96 ∨ (97 ≤ n ∧ n ≤ 122) ∨ (122 < n ∧ n < 128) ∨ 128 ≤ n := by omega
  rcases hc with h | h | ⟨h, h'⟩ | ⟨h, h'⟩ | ⟨h, h'⟩ | ⟨h, h'⟩ | ⟨h, h'⟩ | h | h | ⟨h, h'⟩ | ⟨h, h'⟩ | h
  case inr.inl =>
    have e95 : ((n : Int) == 95) = false := beq_eq_false_iff_ne.2 (by omega)
    have e36 : ((n : Int) == 36) = true := beq_iff_eq.2 (by omega)
    clear h
    go_enter Try.func15, Try.ntmps15
    go_wp2
    go_ret
    have := beq_iff_eq.1 e36
    exact ⟨ret_bool (by rw [hG.out, Bool.eq_iff_iff]; simp only [decide_eq_true_eq, Bool.false_eq_true, iff_false, false_iff, true_iff, iff_true, Bool.false_or, Bool.true_or, Bool.or_eq_true, Bool.and_eq_true]; omega), rfl⟩
  case inr.inr.inr.inr.inr.inr.inr.inl =>
    have e95 : ((n : Int) == 95) = true := beq_iff_eq.2 (by omega)
    clear h
    go_enter Try.func15, Try.ntmps15
    go_wp2
    go_ret
    have := beq_iff_eq.1 e95
    exact ⟨ret_bool (by rw [hG.out, Bool.eq_iff_iff]; simp only [decide_eq_true_eq, Bool.false_eq_true, iff_false, false_iff, true_iff, iff_true, Bool.false_or, Bool.true_or, Bool.or_eq_true, Bool.and_eq_true]; omega), rfl⟩
  all_goals
    have e95 : ((n : Int) == 95) = false := beq_eq_false_iff_ne.2 (by omega)
    have e36 : ((n : Int) == 36) = false := beq_eq_false_iff_ne.2 (by omega)
    go_enter Try.func15, Try.ntmps15
    go_wp2
    go_ret
    exact ⟨ret_bool (by rw [hG.out, Bool.eq_iff_iff]; simp only [decide_eq_true_eq, Bool.false_eq_true, iff_false, false_iff, true_iff, iff_true, Bool.false_or, Bool.true_or, Bool.or_eq_true, Bool.and_eq_true]; omega), rfl⟩
end Go.Proofs.Qxb6603812a
