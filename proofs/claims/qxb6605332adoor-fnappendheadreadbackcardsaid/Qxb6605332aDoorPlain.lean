import Derived.Lib.ItoaLen
import Derived.Lib.IndexLaws
namespace Go.Proofs.Qxb6605332aDoor
namespace Hd

def noLF (l : List UInt8) : Bool := l.all fun b => b != 10

theorem noLF_append (a b : List UInt8) : noLF (a ++ b) = (noLF a && noLF b) := by unfold noLF; rw [List.all_append]
theorem noLF_cons (x : UInt8) (t : List UInt8) : noLF (x :: t) = ((x != 10) && noLF t) := rfl

theorem decDigits_noLF : ∀ u : Nat, noLF (Lib.decDigits u) = true := by
  intro u
  induction u using Nat.strongRecOn with
  | _ u ih =>
    have one : ∀ d, d < 10 → ((UInt8.ofNat (48 + d)) != 10) = true := by
      intro d hd
      rw [bne_iff_ne]
      intro h
      have := congrArg UInt8.toNat h
      simp at this; omega
    by_cases h : u < 10
    · rw [Lib.decDigits_one h, noLF_cons, one u h]; rfl
    · rw [Lib.decDigits, dif_neg h, noLF_append, ih (u / 10) (by omega), noLF_cons, one (u % 10) (by omega)]; rfl

theorem itoa_noLF (n : Int) : noLF (Lib.itoa n) = true := by
  unfold Lib.itoa
  split
  · rw [noLF_cons, decDigits_noLF]; rfl
  · exact decDigits_noLF _

/-- The status' text. -/
def stText (n : Int) : List UInt8 :=
  if n = 200 then [79, 75]
  else if n = 400 then [66, 97, 100, 32, 82, 101, 113, 117, 101, 115, 116]
  else if n = 404 then [78, 111, 116, 32, 70, 111, 117, 110, 100]
  else if n = 405 then [77, 101, 116, 104, 111, 100, 32, 78, 111, 116, 32, 65, 108, 108, 111, 119, 101, 100]
  else if n = 431 then [82, 101, 113, 117, 101, 115, 116, 32, 72, 101, 97, 100, 101, 114, 32, 70, 105, 101, 108, 100, 115, 32, 84, 111, 111, 32, 76, 97, 114, 103, 101]
  else if n = 500 then [73, 110, 116, 101, 114, 110, 97, 108, 32, 83, 101, 114, 118, 101, 114, 32, 69, 114, 114, 111, 114]
  else if n = 505 then [72, 84, 84, 80, 32, 86, 101, 114, 115, 105, 111, 110, 32, 78, 111, 116, 32, 83, 117, 112, 112, 111, 114, 116, 101, 100]
  else [83, 116, 97, 116, 117, 115, 32] ++ Lib.itoa n

theorem stText_noLF (n : Int) : noLF (stText n) = true := by
  unfold stText
  repeat' split
  all_goals first | decide | (rw [noLF_append, itoa_noLF]; decide)

theorem stText_len (n : Int) (h0 : -9223372036854775808 ≤ n) (h1 : n ≤ 9223372036854775807) : (stText n).length ≤ 64 := by
  have := Lib.itoa_length_le n h0 h1
  unfold stText
  repeat' split
  all_goals first | decide | (rw [List.length_append]; simp; omega)

/-- Lines, one behind the other, and the empty line at the end. -/
def enc (l : List UInt8) (ls : List (List UInt8)) : List UInt8 := l ++ (ls.flatMap fun x => 13 :: 10 :: x) ++ [13, 10, 13, 10]

theorem enc_nil (l : List UInt8) : enc l [] = l ++ [13, 10, 13, 10] := by simp [enc]
theorem enc_cons (l m : List UInt8) (ls : List (List UInt8)) : enc l (m :: ls) = l ++ (13 :: 10 :: enc m ls) := by
  simp [enc, List.append_assoc]

/-- Lines without a line feed, each but the first of two bytes or more. -/
def Good (ls : List (List UInt8)) : Prop := ∀ l ∈ ls, noLF l = true ∧ 2 ≤ l.length

def lastOf (l : List UInt8) : List (List UInt8) → List UInt8
  | [] => l
  | m :: ls => lastOf m ls

theorem lastOf_append (l m : List UInt8) (ls : List (List UInt8)) : lastOf l (ls ++ [m]) = m := by
  induction ls generalizing l with
  | nil => rfl
  | cons a t ih => exact ih a

theorem indexByte_noLF : ∀ (l t : List UInt8), noLF l = true → Lib.indexByte (l ++ 10 :: t) 10 = l.length
  | [], t, _ => by simp [Lib.indexByte]
  | x :: l, t, h => by
    rw [noLF_cons, Bool.and_eq_true] at h
    have hx : (x == 10) = false := by simpa using h.1
    have ih := indexByte_noLF l t h.2
    rw [List.cons_append, Lib.indexByte, hx, ih]
    simp only [Bool.false_eq_true, if_false, List.length_cons]
    rw [if_neg (by simp)]; omega

/-- The first line feed of a text of lines. -/
theorem index_enc (l : List UInt8) (ls : List (List UInt8)) (h : noLF l = true) : Lib.indexByte (enc l ls) 10 = (l.length + 1 : Nat) := by
  have key : ∀ t, Lib.indexByte (l ++ 13 :: 10 :: t) 10 = (l.length + 1 : Nat) := fun t => by
    have h2 : noLF (l ++ [13]) = true := by rw [noLF_append, h]; rfl
    have := indexByte_noLF (l ++ [13]) t h2
    rw [List.append_assoc] at this
    rw [List.length_append] at this
    exact this
  cases ls with
  | nil => rw [enc_nil]; exact key _
  | cons m ls => rw [enc_cons]; exact key _

theorem enc_drop (l m : List UInt8) (ls : List (List UInt8)) : (enc l (m :: ls)).drop (l.length + 2) = enc m ls := by
  rw [enc_cons, ← List.drop_drop, List.drop_left]; rfl
theorem enc_drop_last (l : List UInt8) : (enc l []).drop (l.length + 2) = [13, 10] := by
  rw [enc_nil, ← List.drop_drop, List.drop_left]; rfl
theorem enc_length_last (l : List UInt8) : (enc l []).length = l.length + 4 := by rw [enc_nil]; simp

/-- How the next line begins. -/
theorem enc_head {m : List UInt8} {ls : List (List UInt8)} (h1 : noLF m = true) (h2 : 2 ≤ m.length) : ∃ a b t, enc m ls = a :: b :: t ∧ a ≠ 10 ∧ b ≠ 10 := by
  match m, h2 with
  | a :: b :: t, _ =>
    rw [noLF_cons, noLF_cons, Bool.and_eq_true, Bool.and_eq_true] at h1
    exact ⟨a, b, t ++ (ls.flatMap fun x => 13 :: 10 :: x) ++ [13, 10, 13, 10], by simp [enc], by simpa using h1.1, by simpa using h1.2.1⟩

/-- The head's bytes. -/
def lines (http10 opn : Bool) (ct : List UInt8) (blen : Int) (date : List UInt8) (hs : List (List UInt8 × List UInt8)) : List (List UInt8) :=
  (if ct.isEmpty then [] else [[67, 111, 110, 116, 101, 110, 116, 45, 84, 121, 112, 101, 58, 32] ++ ct]) ++
  [[67, 111, 110, 116, 101, 110, 116, 45, 76, 101, 110, 103, 116, 104, 58, 32] ++ Lib.itoa blen, [68, 97, 116, 101, 58, 32] ++ date] ++
  hs.map (fun p => p.1 ++ [58, 32] ++ p.2) ++
  (if opn then (if http10 then [[67, 111, 110, 110, 101, 99, 116, 105, 111, 110, 58, 32, 107, 101, 101, 112, 45, 97, 108, 105, 118, 101]] else []) else [[67, 111, 110, 110, 101, 99, 116, 105, 111, 110, 58, 32, 99, 108, 111, 115, 101]])

def line0 (http10 : Bool) (st : Int) : List UInt8 :=
  (if http10 then [72, 84, 84, 80, 47, 49, 46, 48, 32] else [72, 84, 84, 80, 47, 49, 46, 49, 32]) ++ Lib.itoa st ++ [32] ++ stText st

def head (http10 opn : Bool) (st : Int) (ct : List UInt8) (blen : Int) (date : List UInt8) (hs : List (List UInt8 × List UInt8)) : List UInt8 := enc (line0 http10 st) (lines http10 opn ct blen date hs)

theorem lines_good (http10 opn : Bool) (ct : List UInt8) (blen : Int) (date : List UInt8) (hs : List (List UInt8 × List UInt8)) (h1 : noLF ct = true) (h2 : noLF date = true) (h3 : ∀ p ∈ hs, noLF p.1 = true ∧ noLF p.2 = true) : Good (lines http10 opn ct blen date hs) := by
  intro l hl
  unfold lines at hl
  simp only [List.mem_append, List.mem_map, List.mem_cons, List.not_mem_nil, or_false] at hl
  rcases hl with ((hl | hl | hl) | ⟨p, hp, rfl⟩) | hl
  · split at hl
    · cases hl
    · rw [List.mem_singleton] at hl
      subst hl
      exact ⟨by rw [noLF_append, h1]; decide, by simp⟩
  · subst hl
    exact ⟨by rw [noLF_append, itoa_noLF]; decide, by simp⟩
  · subst hl
    exact ⟨by rw [noLF_append, h2]; decide, by simp⟩
  · obtain ⟨a, b⟩ := h3 p hp
    exact ⟨by rw [noLF_append, noLF_append, a, b]; decide, by simp; omega⟩
  · repeat' split at hl
    · rw [List.mem_singleton] at hl; subst hl; exact ⟨by decide, by decide⟩
    · cases hl
    · rw [List.mem_singleton] at hl; subst hl; exact ⟨by decide, by decide⟩

theorem line0_noLF (http10 : Bool) (st : Int) : noLF (line0 http10 st) = true := by
  unfold line0
  rw [noLF_append, noLF_append, noLF_append, itoa_noLF, stText_noLF]
  cases http10 <;> decide

/-- How long the last line is. -/
def lastLen (http10 opn : Bool) (date : List UInt8) (hs : List (List UInt8 × List UInt8)) : Nat :=
  if opn then (if http10 then 22 else match hs.getLast? with
    | some p => p.1.length + 2 + p.2.length
    | none => 6 + date.length) else 17

theorem last_len (http10 opn : Bool) (l ct : List UInt8) (blen : Int) (date : List UInt8) (hs : List (List UInt8 × List UInt8)) : (lastOf l (lines http10 opn ct blen date hs)).length = lastLen http10 opn date hs := by
  unfold lines lastLen
  cases opn with
  | false => simp only [Bool.false_eq_true, if_false]; rw [lastOf_append]; rfl
  | true =>
    cases http10 with
    | true => simp only [if_true]; rw [lastOf_append]; rfl
    | false =>
      simp only [if_true, Bool.false_eq_true, if_false, List.append_nil]
      cases hl : hs.getLast? with
      | none =>
        have : hs = [] := List.getLast?_eq_none_iff.1 hl
        subst this
        rw [List.map_nil, List.append_nil, show ∀ (x y : List UInt8) (z : List (List UInt8)), z ++ [x, y] = (z ++ [x]) ++ [y] from fun x y z => by simp, lastOf_append]
        simp; omega
      | some p =>
        obtain ⟨hs', rfl⟩ : ∃ hs', hs = hs' ++ [p] := List.getLast?_eq_some_iff.1 hl
        rw [List.map_append, List.map_cons, List.map_nil, ← List.append_assoc, lastOf_append]
        simp; omega
end Hd
end Go.Proofs.Qxb6605332aDoor
