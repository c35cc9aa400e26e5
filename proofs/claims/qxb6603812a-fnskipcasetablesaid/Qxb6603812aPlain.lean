import Derived.Lib.IndexAny
namespace Go.Proofs.Qxb6603812a
namespace Sq

/-- Is the byte a line break? -/
def isBrk (c : UInt8) : Bool := c == 10 || c == 13
def isSp (c : UInt8) : Bool := c == 32 || c == 9 || c == 12

/-- The end of the quote that goes on, counted from the list's head; 'nl': a line break was met; 'cm': inside a comment. -/
def cont : Bool → Bool → List UInt8 → Option Nat
  | _, _, [] => none
  | nl, true, c :: t => if isBrk c then (cont true false t).map (· + 1) else (cont nl true t).map (· + 1)
  | nl, false, c :: t =>
    if isBrk c then (cont true false t).map (· + 1)
    else if isSp c then (cont nl false t).map (· + 1)
    else if c == 45 && t.head? == some 45 then (cont nl true t).map (· + 1)
    else if c == 39 && nl then some 1
    else none

/-- What 'continuation' answers. -/
def contAt (l : List UInt8) (i : Nat) : Nat := match cont false false (l.drop i) with
  | some k => i + k
  | none => i

theorem cont_pos : ∀ (l : List UInt8) (nl cm : Bool) (k : Nat), cont nl cm l = some k → 1 ≤ k ∧ k ≤ l.length
  | [], _, _, _, h => by simp [cont] at h
  | c :: t, nl, true, k, h => by
    rw [cont] at h
    split at h
    · obtain ⟨m, hm, rfl⟩ := Option.map_eq_some_iff.1 h
      have := cont_pos t _ _ m hm
      simp; omega
    · obtain ⟨m, hm, rfl⟩ := Option.map_eq_some_iff.1 h
      have := cont_pos t _ _ m hm
      simp; omega
  | c :: t, nl, false, k, h => by
    rw [cont] at h
    split at h
    · obtain ⟨m, hm, rfl⟩ := Option.map_eq_some_iff.1 h
      have := cont_pos t _ _ m hm
      simp; omega
    · split at h
      · obtain ⟨m, hm, rfl⟩ := Option.map_eq_some_iff.1 h
        have := cont_pos t _ _ m hm
        simp; omega
      · split at h
        · obtain ⟨m, hm, rfl⟩ := Option.map_eq_some_iff.1 h
          have := cont_pos t _ _ m hm
          simp; omega
        · split at h
          · cases h; simp
          · cases h

theorem contAt_le (l : List UInt8) (i : Nat) (h : i ≤ l.length) : i ≤ contAt l i ∧ contAt l i ≤ l.length := by
  unfold contAt
  split
  · rename_i k hk
    have := cont_pos _ _ _ _ hk
    rw [List.length_drop] at this
    omega
  · omega

theorem contAt_drop (l : List UInt8) (i : Nat) : contAt (l.drop i) 0 + i = contAt l i := by
  unfold contAt
  rw [List.drop_zero]
  split <;> omega

/-- Inside a comment: nothing till the first break. -/
theorem cont_comment_none (nl : Bool) : ∀ (l : List UInt8), Lib.indexAny l [10, 13] = -1 → cont nl true l = none
  | [], _ => rfl
  | c :: t, h => by
    rw [Lib.indexAny] at h
    split at h
    · omega
    · rename_i hc
      have hb : isBrk c = false := by
        simp at hc
        simp [isBrk, hc]
      split at h
      · rename_i ht
        rw [cont, hb, cont_comment_none nl t (by simpa using ht)]
        rfl
      · rename_i ht
        have := Lib.indexAny_ge [10, 13] t
        omega

theorem cont_comment_some (nl : Bool) : ∀ (l : List UInt8) (e : Nat), Lib.indexAny l [10, 13] = (e : Int) → cont nl true l = (cont nl false (l.drop e)).map (· + e)
  | [], e, h => by simp [Lib.indexAny] at h
  | c :: t, e, h => by
    rw [Lib.indexAny] at h
    split at h
    · rename_i hc
      have hb : isBrk c = true := by
        simp at hc
        simp [isBrk, hc]
      obtain rfl : e = 0 := by omega
      simp only [cont, hb, if_true, List.drop_zero, Option.map_map]
      rfl
    · rename_i hc
      have hb : isBrk c = false := by
        simp at hc
        simp [isBrk, hc]
      split at h
      · omega
      · obtain ⟨e', rfl⟩ : ∃ e', e = e' + 1 := by
          have := Lib.indexAny_ge [10, 13] t
          rename_i ht
          have : Lib.indexAny t [10, 13] ≠ -1 := by simpa using ht
          exact ⟨e - 1, by omega⟩
        rw [cont, hb]
        simp only [Bool.false_eq_true, if_false, List.drop_succ_cons]
        rw [cont_comment_some nl t e' (by omega), Option.map_map]
        rfl

/-- Two steps at a comment's opening. -/
theorem cont_dash_none (nl : Bool) (t : List UInt8) (h : Lib.indexAny (45 :: 45 :: t) [10, 13] = -1) : cont nl false (45 :: 45 :: t) = none := by
  have h1 : Lib.indexAny (45 :: t) [10, 13] = -1 := by
    rw [Lib.indexAny] at h
    split at h
    · omega
    · split at h
      · rename_i hh; simpa using hh
      · have := Lib.indexAny_ge [10, 13] (45 :: t); omega
  rw [cont]
  simp [isBrk, isSp, cont_comment_none nl _ h1]

theorem cont_dash_some (nl : Bool) (t : List UInt8) (e : Nat) (h : Lib.indexAny (45 :: 45 :: t) [10, 13] = (e : Int)) :
    2 ≤ e ∧ cont nl false (45 :: 45 :: t) = (cont nl false ((45 :: 45 :: t).drop e)).map (· + e) := by
  have h0 : ([10, 13] : List UInt8).contains 45 = false := by decide
  have hA : Lib.indexAny (45 :: t) [10, 13] ≠ -1 ∧ (e : Int) = Lib.indexAny (45 :: t) [10, 13] + 1 := by
    rw [Lib.indexAny, h0] at h
    simp only [Bool.false_eq_true, if_false] at h
    split at h
    · omega
    · rename_i hh; exact ⟨by simpa using hh, h.symm⟩
  have hB : Lib.indexAny t [10, 13] ≠ -1 ∧ Lib.indexAny (45 :: t) [10, 13] = Lib.indexAny t [10, 13] + 1 := by
    have hA1 := hA.1
    rw [Lib.indexAny, h0] at hA1 ⊢
    simp only [Bool.false_eq_true, if_false] at hA1 ⊢
    split at hA1
    · simp at hA1
    · rename_i hh
      exact ⟨by simpa using hh, by rw [if_neg hh]⟩
  have := Lib.indexAny_ge [10, 13] t
  obtain ⟨e', rfl⟩ : ∃ e', e = e' + 1 := ⟨e - 1, by omega⟩
  refine ⟨by omega, ?_⟩
  rw [cont]
  simp only [isBrk, isSp]
  rw [cont_comment_some nl (45 :: t) e' (by omega)]
  simp only [List.drop_succ_cons, Option.map_map]
  rfl

/-- A list that ends at the answer gives the same answer. -/
theorem cont_take : ∀ (l : List UInt8) (nl cm : Bool) (k : Nat), cont nl cm l = some k → cont nl cm (l.take k) = some k
  | [], _, _, _, h => by simp [cont] at h
  | c :: t, nl, true, k, h => by
    rw [cont] at h
    split at h
    · rename_i hb
      obtain ⟨m, hm, rfl⟩ := Option.map_eq_some_iff.1 h
      rw [List.take_succ_cons, cont, if_pos hb, cont_take t _ _ m hm]; rfl
    · rename_i hb
      obtain ⟨m, hm, rfl⟩ := Option.map_eq_some_iff.1 h
      rw [List.take_succ_cons, cont, if_neg hb, cont_take t _ _ m hm]; rfl
  | c :: t, nl, false, k, h => by
    rw [cont] at h
    split at h
    · rename_i hb
      obtain ⟨m, hm, rfl⟩ := Option.map_eq_some_iff.1 h
      rw [List.take_succ_cons, cont, if_pos hb, cont_take t _ _ m hm]; rfl
    · rename_i hb
      split at h
      · rename_i hs
        obtain ⟨m, hm, rfl⟩ := Option.map_eq_some_iff.1 h
        rw [List.take_succ_cons, cont, if_neg hb, if_pos hs, cont_take t _ _ m hm]; rfl
      · rename_i hs
        split at h
        · rename_i hd
          obtain ⟨m, hm, rfl⟩ := Option.map_eq_some_iff.1 h
          have hp := cont_pos _ _ _ _ hm
          have hd' : (c == 45 && (t.take m).head? == some 45) = true := by
            obtain ⟨m', rfl⟩ : ∃ m', m = m' + 1 := ⟨m - 1, by omega⟩
            cases t with
            | nil => simp at hd
            | cons a t => simpa using hd
          rw [List.take_succ_cons, cont, if_neg hb, if_neg hs, if_pos hd', cont_take t _ _ m hm]; rfl
        · rename_i hd
          split at h
          · rename_i hq
            cases h
            rw [List.take_succ_cons, List.take_zero, cont, if_neg hb, if_neg hs]
            simp [hq]
          · cases h

def anyBrk (l : List UInt8) : Bool := l.any isBrk

/-- Where it answers, a quote stands before the end, and a break before the quote unless one was met already. -/
theorem cont_quote : ∀ (l : List UInt8) (nl cm : Bool) (k : Nat), cont nl cm l = some k → l[k - 1]? = some 39 ∧ (nl = true ∨ anyBrk (l.take (k - 1)) = true)
  | [], _, _, _, h => by simp [cont] at h
  | c :: t, nl, true, k, h => by
    rw [cont] at h
    split at h
    · rename_i hb
      obtain ⟨m, hm, rfl⟩ := Option.map_eq_some_iff.1 h
      have hp := cont_pos _ _ _ _ hm
      obtain ⟨m', rfl⟩ : ∃ m', m = m' + 1 := ⟨m - 1, by omega⟩
      have ih := cont_quote t _ _ _ hm
      simp only [Nat.add_sub_cancel] at ih ⊢
      exact ⟨by simpa using ih.1, .inr (by simp [anyBrk, hb])⟩
    · obtain ⟨m, hm, rfl⟩ := Option.map_eq_some_iff.1 h
      have hp := cont_pos _ _ _ _ hm
      obtain ⟨m', rfl⟩ : ∃ m', m = m' + 1 := ⟨m - 1, by omega⟩
      have ih := cont_quote t _ _ _ hm
      simp only [Nat.add_sub_cancel] at ih ⊢
      refine ⟨by simpa using ih.1, ih.2.elim .inl fun h => .inr ?_⟩
      simp only [anyBrk, List.take_succ_cons, List.any_cons] at h ⊢
      rw [h, Bool.or_true]
  | c :: t, nl, false, k, h => by
    rw [cont] at h
    split at h
    · rename_i hb
      obtain ⟨m, hm, rfl⟩ := Option.map_eq_some_iff.1 h
      have hp := cont_pos _ _ _ _ hm
      obtain ⟨m', rfl⟩ : ∃ m', m = m' + 1 := ⟨m - 1, by omega⟩
      have ih := cont_quote t _ _ _ hm
      simp only [Nat.add_sub_cancel] at ih ⊢
      exact ⟨by simpa using ih.1, .inr (by simp [anyBrk, hb])⟩
    · split at h
      · obtain ⟨m, hm, rfl⟩ := Option.map_eq_some_iff.1 h
        have hp := cont_pos _ _ _ _ hm
        obtain ⟨m', rfl⟩ : ∃ m', m = m' + 1 := ⟨m - 1, by omega⟩
        have ih := cont_quote t _ _ _ hm
        simp only [Nat.add_sub_cancel] at ih ⊢
        refine ⟨by simpa using ih.1, ih.2.elim .inl fun h => .inr ?_⟩
        simp only [anyBrk, List.take_succ_cons, List.any_cons] at h ⊢
        rw [h, Bool.or_true]
      · split at h
        · obtain ⟨m, hm, rfl⟩ := Option.map_eq_some_iff.1 h
          have hp := cont_pos _ _ _ _ hm
          obtain ⟨m', rfl⟩ : ∃ m', m = m' + 1 := ⟨m - 1, by omega⟩
          have ih := cont_quote t _ _ _ hm
          simp only [Nat.add_sub_cancel] at ih ⊢
          refine ⟨by simpa using ih.1, ih.2.elim .inl fun h => .inr ?_⟩
          simp only [anyBrk, List.take_succ_cons, List.any_cons] at h ⊢
          rw [h, Bool.or_true]
        · split at h
          · rename_i hq
            cases h
            simp only [Bool.and_eq_true, beq_iff_eq] at hq
            exact ⟨by simp [hq.1], .inl hq.2⟩
          · cases h

/-- A byte that opens no gap. -/
theorem cont_head (c : UInt8) (t : List UInt8) (h1 : isBrk c = false) (h2 : isSp c = false) (h3 : (c == 45) = false) : cont false false (c :: t) = none := by
  rw [cont, h1, h2, h3]
  simp

end Sq
end Go.Proofs.Qxb6603812a
