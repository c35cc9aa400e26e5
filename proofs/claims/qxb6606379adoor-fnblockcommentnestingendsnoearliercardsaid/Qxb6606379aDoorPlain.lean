import Derived.Lib.IndexMore
import Derived.Lib.Atoi
namespace Go.Proofs.Qxb6606379aDoor
namespace Bc
open Go

/-- Do the bytes a, b stand at place i? -/
def at2 (t : List UInt8) (i : Nat) (a b : UInt8) : Prop := t[i]? = some a ∧ t[i + 1]? = some b

theorem occ2 (t : List UInt8) (k j : Nat) (a b : UInt8) : Lib.occAt (t.drop k) [a, b] j = true ↔ at2 t (k + j) a b := by
  unfold Lib.occAt at2
  rw [List.drop_drop]
  have e0 : (t.drop (k + j))[0]? = t[k + j]? := by rw [List.getElem?_drop]; rfl
  have e1 : (t.drop (k + j))[1]? = t[k + j + 1]? := by rw [List.getElem?_drop]
  rw [← e0, ← e1]
  cases t.drop (k + j) with
  | nil => simp
  | cons x l =>
    cases l with
    | nil => simp [List.isPrefixOf]
    | cons y l =>
      simp only [List.isPrefixOf, Bool.and_eq_true, beq_iff_eq, and_true, List.getElem?_cons_zero, List.getElem?_cons_succ, Option.some.injEq]
      exact ⟨fun h => ⟨h.1.symm, h.2.symm⟩, fun h => ⟨h.1.symm, h.2.symm⟩⟩

/-- What a search from place k says. -/
theorem index2 (t : List UInt8) (k : Nat) (a b : UInt8) :
    (Lib.index (t.drop k) [a, b] = -1 ∧ ∀ j, k ≤ j → ¬ at2 t j a b) ∨ (∃ i : Nat, Lib.index (t.drop k) [a, b] = i ∧ at2 t (k + i) a b ∧ (∀ j, k ≤ j → j < k + i → ¬ at2 t j a b)) := by
  rcases Lib.index_spec (t.drop k) [a, b] with ⟨h1, h2⟩ | ⟨i, h1, h2, h3, h4⟩
  · refine .inl ⟨h1, fun j hj hat => ?_⟩
    have hlt : j + 1 < t.length := (List.getElem?_eq_some_iff.1 hat.2).1
    have := h2 (j - k) (by rw [List.length_drop]; omega)
    have h' := (occ2 t k (j - k) a b).2 (by rw [show k + (j - k) = j from by omega]; exact hat)
    rw [h'] at this
    cases this
  · refine .inr ⟨i, h1, (occ2 t k i a b).1 h3, fun j hj hlt hat => ?_⟩
    have := h4 (j - k) (by omega)
    have h' := (occ2 t k (j - k) a b).2 (by rw [show k + (j - k) = j from by omega]; exact hat)
    rw [h'] at this
    cases this

theorem at2_lt {t : List UInt8} {i : Nat} {a b : UInt8} (h : at2 t i a b) : i + 2 ≤ t.length := by
  have := (List.getElem?_eq_some_iff.1 h.2).1
  omega

/-- The comment's length where comments do not nest. -/
def flat (t : List UInt8) : Int := if Lib.index (t.drop 2) [42, 47] < 0 then -1 else Lib.index (t.drop 2) [42, 47] + 4

theorem flat_cases (t : List UInt8) : (flat t = -1 ∧ ∀ j, 2 ≤ j → ¬ at2 t j 42 47) ∨ (∃ i : Nat, 2 ≤ i ∧ flat t = (i + 2 : Nat) ∧ at2 t i 42 47 ∧ ∀ j, 2 ≤ j → j < i → ¬ at2 t j 42 47) := by
  unfold flat
  rcases index2 t 2 42 47 with ⟨h1, h2⟩ | ⟨i, h1, h2, h3⟩
  · exact .inl ⟨by rw [h1]; rfl, h2⟩
  · refine .inr ⟨2 + i, by omega, ?_, h2, fun j hj hlt => h3 j hj (by omega)⟩
    rw [h1, if_neg (by omega)]
    omega

/-- A version comment's length. -/
def vc (t : List UInt8) : Nat → Nat → Option Nat
  | 0, _ => none
  | f + 1, i =>
    if Lib.index (t.drop i) [42, 47] < 0 then none
    else if Lib.index ((t.drop i).take ((Lib.index (t.drop i) [42, 47]).toNat + 1)) [47, 42] < 0 then some (i + (Lib.index (t.drop i) [42, 47]).toNat + 2)
    else if Lib.index (t.drop (i + (Lib.index ((t.drop i).take ((Lib.index (t.drop i) [42, 47]).toNat + 1)) [47, 42]).toNat + 2)) [42, 47] < 0 then none
    else vc t f (i + (Lib.index ((t.drop i).take ((Lib.index (t.drop i) [42, 47]).toNat + 1)) [47, 42]).toNat + 2 + (Lib.index (t.drop (i + (Lib.index ((t.drop i).take ((Lib.index (t.drop i) [42, 47]).toNat + 1)) [47, 42]).toNat + 2)) [42, 47]).toNat + 2)

theorem index_in (t : List UInt8) (k : Nat) (a b : UInt8) (h : ¬ Lib.index (t.drop k) [a, b] < 0) : k + (Lib.index (t.drop k) [a, b]).toNat + 2 ≤ t.length := by
  rcases index2 t k a b with ⟨h1, _⟩ | ⟨i, h1, h2, _⟩
  · omega
  · have := at2_lt h2
    rw [h1]; simp; omega

theorem index_in_take (l : List UInt8) (n : Nat) (a b : UInt8) (h : ¬ Lib.index (l.take n) [a, b] < 0) : (Lib.index (l.take n) [a, b]).toNat + 2 ≤ n := by
  have := Lib.index_room (l.take n) [a, b] (by omega)
  rw [List.length_take] at this
  simp at this
  omega

theorem vc_bounds (t : List UInt8) : ∀ (f i k : Nat), vc t f i = some k → i + 2 ≤ k ∧ k ≤ t.length
  | 0, i, k, h => by simp [vc] at h
  | f + 1, i, k, h => by
    unfold vc at h
    split at h
    · cases h
    · rename_i h1
      have b1 := index_in t i 42 47 h1
      split at h
      · cases h; omega
      · rename_i h2
        split at h
        · cases h
        · have := vc_bounds t f _ k h
          omega

/-- One round's step. -/
theorem vc_more (t : List UInt8) : ∀ (f g i : Nat), t.length < i + f → t.length < i + g → vc t f i = vc t g i
  | 0, 0, i, _, _ => rfl
  | 0, g + 1, i, h, h' => by
    unfold vc
    rw [if_pos]
    rcases index2 t i 42 47 with ⟨h1, _⟩ | ⟨j, h1, h2, _⟩
    · rw [h1]; decide
    · have := at2_lt h2; omega
  | f + 1, 0, i, h, h' => by
    unfold vc
    rw [if_pos]
    rcases index2 t i 42 47 with ⟨h1, _⟩ | ⟨j, h1, h2, _⟩
    · rw [h1]; decide
    · have := at2_lt h2; omega
  | f + 1, g + 1, i, h, h' => by
    unfold vc
    rw [vc_more t f g _ (by omega) (by omega)]

def vcI (t : List UInt8) (n : Nat) : Int := match vc t (t.length + 1) n with
  | none => -1
  | some k => k

theorem vcI_cases (t : List UInt8) (n : Nat) : vcI t n = -1 ∨ ∃ k : Nat, vcI t n = k ∧ n + 2 ≤ k ∧ k ≤ t.length := by
  unfold vcI
  cases h : vc t (t.length + 1) n with
  | none => exact .inl rfl
  | some k => exact .inr ⟨k, rfl, (vc_bounds t _ _ _ h).1, (vc_bounds t _ _ _ h).2⟩

/-- Digits. -/
def isD (b : UInt8) : Bool := decide (48 ≤ b.toNat) && decide (b.toNat ≤ 57)
def dcr : Nat → List UInt8 → Nat
  | 0, _ => 0
  | _ + 1, [] => 0
  | b + 1, x :: l => if isD x then dcr b l + 1 else 0

theorem dcr_le : ∀ (b : Nat) (l : List UInt8), dcr b l ≤ b ∧ dcr b l ≤ l.length
  | 0, l => by simp [dcr]
  | b + 1, [] => by simp [dcr]
  | b + 1, x :: l => by
    have := dcr_le b l
    unfold dcr
    split <;> simp <;> omega

theorem dcr_at : ∀ (b : Nat) (l : List UInt8) (k : Nat), k < dcr b l → ∃ x, l[k]? = some x ∧ isD x = true
  | 0, l, k, h => by simp [dcr] at h
  | b + 1, [], k, h => by simp [dcr] at h
  | b + 1, x :: l, k, h => by
    unfold dcr at h
    split at h
    · rename_i hx
      cases k with
      | zero => exact ⟨x, rfl, hx⟩
      | succ k => obtain ⟨y, hy, hd⟩ := dcr_at b l k (by omega); exact ⟨y, by simpa using hy, hd⟩
    · omega

theorem dcr_end : ∀ (b : Nat) (l : List UInt8) (x : UInt8), dcr b l < b → l[dcr b l]? = some x → isD x = false
  | 0, l, x, h, hx => by omega
  | b + 1, [], x, h, hx => by simp at hx
  | b + 1, y :: l, x, h, hx => by
    unfold dcr at h hx
    split at h
    · rename_i hy
      rw [if_pos hy] at hx
      exact dcr_end b l x (by omega) (by simpa using hx)
    · rename_i hy
      rw [if_neg hy] at hx
      simp at hx
      subst hx
      simpa using hy

def op (t : List UInt8) : Option Nat := if Lib.hasPrefix t [47, 42, 33] then some 3 else if Lib.hasPrefix t [47, 42, 77, 33] then some 4 else none
def vb (t : List UInt8) : Option Nat := match op t with
  | none => none
  | some o => if dcr 6 (t.drop o) < 5 then none else some (o + dcr 6 (t.drop o))

theorem op_le {t : List UInt8} {o : Nat} (h : op t = some o) : 3 ≤ o ∧ o ≤ 4 := by
  unfold op at h
  split at h
  · cases h; omega
  · split at h
    · cases h; omega
    · cases h

theorem vb_le {t : List UInt8} {s : Nat} (h : vb t = some s) : 3 ≤ s ∧ s ≤ t.length := by
  unfold vb at h
  split at h
  · cases h
  · rename_i o ho
    have := op_le ho
    have h2 := dcr_le 6 (t.drop o)
    rw [List.length_drop] at h2
    split at h
    · cases h
    · cases h; omega

theorem decFrom_digits : ∀ (l : List UInt8) (acc : Nat), (∀ x ∈ l, isD x = true) → ∃ n, Lib.decFrom acc l = some n
  | [], acc, _ => ⟨acc, rfl⟩
  | x :: l, acc, h => by
    have hx := h x (List.mem_cons_self ..)
    unfold isD at hx
    simp only [Bool.and_eq_true, decide_eq_true_eq] at hx
    unfold Lib.decFrom Lib.digitVal
    rw [if_pos hx]
    exact decFrom_digits l _ fun y hy => h y (List.mem_cons_of_mem _ hy)

theorem atoi_digits (l : List UInt8) (h0 : l ≠ []) (h : ∀ x ∈ l, isD x = true) : ∃ n : Nat, Lib.atoi l = some (n : Int) := by
  cases l with
  | nil => exact absurd rfl h0
  | cons x l =>
    obtain ⟨n, hn⟩ := decFrom_digits (x :: l) 0 h
    have hx := h x (List.mem_cons_self ..)
    unfold isD at hx
    simp only [Bool.and_eq_true, decide_eq_true_eq] at hx
    have h1 : (x == 45) = false := by rw [beq_eq_false_iff_ne]; rintro rfl; exact absurd hx.1 (by decide)
    have h2 : (x == 43) = false := by rw [beq_eq_false_iff_ne]; rintro rfl; exact absurd hx.1 (by decide)
    refine ⟨n, ?_⟩
    simp only [Lib.atoi, h1, h2, Lib.decNat]
    simp [hn]

/-- No comment opens inside. -/
def noInner (t : List UInt8) : Prop := ∀ j, 2 ≤ j → ¬ at2 t j 47 42
/-- What the law asks of the nested scan's answer. -/
def nestOK (t : List UInt8) (r : Int) : Prop := (r = -1 ∨ ∃ i : Nat, 2 ≤ i ∧ at2 t i 42 47 ∧ r = (i + 2 : Nat)) ∧ (noInner t → r = flat t)

/-- What the law asks of the two answers. -/
theorem pq_law (t : List UInt8) (r : Int) (h : nestOK t r) :
    (flat t = -1 ∨ (4 ≤ flat t ∧ flat t ≤ t.length)) ∧ (r = -1 ∨ (4 ≤ r ∧ r ≤ t.length ∧ flat t ≠ -1 ∧ flat t ≤ r)) ∧ (noInner t → flat t = r) := by
  obtain ⟨h1, h2⟩ := h
  refine ⟨?_, ?_, fun hn => (h2 hn).symm⟩
  · rcases flat_cases t with ⟨e, _⟩ | ⟨i, hi, e, ha, _⟩
    · exact .inl e
    · have := at2_lt ha; exact .inr ⟨by omega, by omega⟩
  · rcases h1 with e | ⟨i, hi, ha, e⟩
    · exact .inl e
    · have hl := at2_lt ha
      rcases flat_cases t with ⟨e', hno⟩ | ⟨i', hi', e', ha', hno⟩
      · exact absurd ha (hno i hi)
      · have : i' ≤ i := by
          refine Nat.le_of_not_lt fun hlt => hno i hi hlt ha
        exact .inr ⟨by omega, by omega, by omega, by omega⟩
end Bc
end Go.Proofs.Qxb6606379aDoor
