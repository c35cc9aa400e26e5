import Derived.Test.Qxb6603812aSkipE
namespace Go.Proofs.Qxb6603812a
open Go.RowKit
namespace Sq
section
variable {f : Fl} {fw : Bool} {l : List UInt8}
theorem skp_Q (h1 : (l.headD 0 == 39 || l.headD 0 == 34) = true) : skp f fw l = 1 + clos (l.headD 0) f.bs (l.drop 1) := by
  unfold skp; rw [if_pos h1]
theorem skp_T (h1 : (l.headD 0 == 39 || l.headD 0 == 34) = false) (h2 : (l.headD 0 == 96 && f.bt) = true) : skp f fw l = 1 + clos 96 false (l.drop 1) := by
  unfold skp; rw [h1, h2]; rfl
theorem skp_E (h1 : (l.headD 0 == 39 || l.headD 0 == 34) = false) (h2 : (l.headD 0 == 96 && f.bt) = false) (h3 : cE f fw l = true) : skp f fw l = 2 + escOf (l.drop 2) := by
  unfold skp; rw [h1, h2, h3]; rfl
theorem skp_D (h1 : (l.headD 0 == 39 || l.headD 0 == 34) = false) (h2 : (l.headD 0 == 96 && f.bt) = false) (h3 : cE f fw l = false) (h4 : cD f fw (l.headD 0) = true) : skp f fw l = dol l := by
  unfold skp; rw [h1, h2, h3, h4]; rfl
theorem skp_L (h1 : (l.headD 0 == 39 || l.headD 0 == 34) = false) (h2 : (l.headD 0 == 96 && f.bt) = false) (h3 : cE f fw l = false) (h4 : cD f fw (l.headD 0) = false) (h5 : (cL f l || (l.headD 0 == 35 && f.hc)) = true) : skp f fw l = lineEnd l := by
  unfold skp; rw [h1, h2, h3, h4, h5]; rfl
theorem skp_X (h1 : (l.headD 0 == 39 || l.headD 0 == 34) = false) (h2 : (l.headD 0 == 96 && f.bt) = false) (h3 : cE f fw l = false) (h4 : cD f fw (l.headD 0) = false) (h5 : (cL f l || (l.headD 0 == 35 && f.hc)) = false) (h6 : cX f l = true) : skp f fw l = runAt isDig l ((Lib.indexByte l 33).toNat + 1) := by
  unfold skp; rw [h1, h2, h3, h4, h5, h6]; rfl
theorem skp_C (h1 : (l.headD 0 == 39 || l.headD 0 == 34) = false) (h2 : (l.headD 0 == 96 && f.bt) = false) (h3 : cE f fw l = false) (h4 : cD f fw (l.headD 0) = false) (h5 : (cL f l || (l.headD 0 == 35 && f.hc)) = false) (h6 : cX f l = false) (h7 : Lib.hasPrefix l [47, 42] = true) : skp f fw l = 2 + com f.nc 1 (l.drop 2) := by
  unfold skp; rw [h1, h2, h3, h4, h5, h6, h7]; rfl
theorem skp_0 (h1 : (l.headD 0 == 39 || l.headD 0 == 34) = false) (h2 : (l.headD 0 == 96 && f.bt) = false) (h3 : cE f fw l = false) (h4 : cD f fw (l.headD 0) = false) (h5 : (cL f l || (l.headD 0 == 35 && f.hc)) = false) (h6 : cX f l = false) (h7 : Lib.hasPrefix l [47, 42] = false) : skp f fw l = 0 := by
  unfold skp; rw [h1, h2, h3, h4, h5, h6, h7]; rfl
end

theorem runAt_drop (p : UInt8 → Bool) (l : List UInt8) (i k : Nat) : i + runAt p (l.drop i) k = runAt p l (i + k) := by
  unfold runAt; rw [List.drop_drop]; omega

theorem pre_split {l p : List UInt8} (h : Lib.hasPrefix l p = true) : ∃ t, l = p ++ t := by
  obtain ⟨t, ht⟩ := List.isPrefixOf_iff_prefix.1 h
  exact ⟨t, ht.symm⟩

theorem index_x3 {l : List UInt8} (h : Lib.hasPrefix l [47, 42, 33] = true) : Lib.indexByte l 33 = 2 ∧ 3 ≤ l.length := by
  obtain ⟨t, rfl⟩ := pre_split h
  exact ⟨rfl, by simp⟩
theorem index_x4 {l : List UInt8} (h : Lib.hasPrefix l [47, 42, 77, 33] = true) : Lib.indexByte l 33 = 3 ∧ 4 ≤ l.length := by
  obtain ⟨t, rfl⟩ := pre_split h
  exact ⟨rfl, by simp⟩

theorem indexByte_lt : ∀ (l : List UInt8) (c : UInt8), l ≠ [] → Lib.indexByte l c < l.length
  | [], _, h => absurd rfl h
  | b :: l, c, _ => by
    rw [Lib.indexByte]
    split
    · simp
    · split
      · simp; omega
      · cases l with
        | nil => simp [Lib.indexByte]
        | cons a t =>
          have := indexByte_lt (a :: t) c (by simp)
          simp only [List.length_cons] at *
          omega
end Sq
end Go.Proofs.Qxb6603812a
