import Derived.Test.Qxb6603812aSteps
import Derived.Lib.Index
namespace Go.Proofs.Qxb6603812a
namespace Sq

def isNS (x : UInt8) : Bool := x == 95 || (decide (97 ≤ x.toNat) && decide (x.toNat ≤ 122)) || (decide (65 ≤ x.toNat) && decide (x.toNat ≤ 90))
def isDig (x : UInt8) : Bool := decide (48 ≤ x.toNat) && decide (x.toNat ≤ 57)
def isWS (x : UInt8) : Bool := isNS x || decide (128 ≤ x.toNat)
def isWord (x : UInt8) : Bool := isWS x || isDig x || x == 36
def isTag (x : UInt8) : Bool := isWS x || isDig x

/-- The bytes up to and with the closing quote. -/
def clos (q : UInt8) (bs : Bool) : List UInt8 → Nat
  | [] => 0
  | [_] => 1
  | c :: d :: t => if c == 92 && bs then 2 + clos q bs t else if c == q && d == q then 2 + clos q bs t else if c == q then 1 else 1 + clos q bs (d :: t)

theorem clos_le (q : UInt8) (bs : Bool) : ∀ l : List UInt8, clos q bs l ≤ l.length
  | [] => Nat.le_refl _
  | [_] => Nat.le_refl _
  | c :: d :: t => by
    have h1 := clos_le q bs t
    have h2 := clos_le q bs (d :: t)
    rw [clos]
    simp only [List.length_cons] at *
    repeat' split
    all_goals omega

def closAt (l : List UInt8) (q : UInt8) (bs : Bool) (k : Nat) : Nat := if k ≤ l.length then k + clos q bs (l.drop k) else l.length

theorem closAt_le (l : List UInt8) (q : UInt8) (bs : Bool) (k : Nat) (h : k ≤ l.length) : k ≤ closAt l q bs k ∧ closAt l q bs k ≤ l.length := by
  have := clos_le q bs (l.drop k)
  rw [List.length_drop] at this
  unfold closAt
  rw [if_pos h]
  omega

theorem closAt_end {l : List UInt8} {q : UInt8} {bs : Bool} {k : Nat} (h : l.length ≤ k) : closAt l q bs k = l.length := by
  unfold closAt
  split
  · have : k = l.length := by omega
    rw [this, List.drop_length, clos]; rfl
  · rfl

theorem drop_one {l : List UInt8} {k : Nat} {x : UInt8} (h : l[k]? = some x) : (k + 1 = l.length ∧ l.drop k = [x]) ∨ ∃ y t, l[k + 1]? = some y ∧ l.drop k = x :: y :: t ∧ l.drop (k + 1) = y :: t ∧ l.drop (k + 2) = t := by
  have h0 := drop_at h
  have hk : k < l.length := (List.getElem?_eq_some_iff.1 h).1
  by_cases h1 : k + 1 < l.length
  · right
    have hy : l[k + 1]? = some l[k + 1] := List.getElem?_eq_getElem h1
    exact ⟨_, _, hy, by rw [h0, drop_at hy], drop_at hy, rfl⟩
  · left
    refine ⟨by omega, ?_⟩
    rw [h0, List.drop_eq_nil_of_le (by omega)]

theorem closAt_bs {l : List UInt8} {q : UInt8} {k : Nat} {x : UInt8} (h : l[k]? = some x) (hx : (x == 92) = true) : closAt l q true k = closAt l q true (k + 2) := by
  have hk : k < l.length := (List.getElem?_eq_some_iff.1 h).1
  rcases drop_one h with ⟨h1, h2⟩ | ⟨y, t, h1, h2, h3, h4⟩
  · rw [closAt_end (by omega : l.length ≤ k + 2)]
    unfold closAt
    rw [if_pos (by omega), h2, clos, h1]
  · have hk1 : k + 1 < l.length := (List.getElem?_eq_some_iff.1 h1).1
    unfold closAt
    rw [if_pos (by omega), if_pos (by omega), h2, h4, clos, hx]
    simp; omega

theorem closAt_two {l : List UInt8} {q : UInt8} {bs : Bool} {k : Nat} {x y : UInt8} (h : l[k]? = some x) (hy : l[k + 1]? = some y) (hb : (x == 92 && bs) = false) (hx : (x == q) = true) (hyq : (y == q) = true) : closAt l q bs k = closAt l q bs (k + 2) := by
  have hk1 : k + 1 < l.length := (List.getElem?_eq_some_iff.1 hy).1
  unfold closAt
  rw [if_pos (by omega), if_pos (by omega), drop_at h, drop_at hy, clos, hb, hx, hyq, show k + 1 + 1 = k + 2 from rfl]
  simp; omega

theorem closAt_one {l : List UInt8} {q : UInt8} {bs : Bool} {k : Nat} {x : UInt8} (h : l[k]? = some x) (hb : (x == 92 && bs) = false) (hx : (x == q) = true) (hy : ∀ y, l[k + 1]? = some y → (y == q) = false) : closAt l q bs k = k + 1 := by
  have hk : k < l.length := (List.getElem?_eq_some_iff.1 h).1
  unfold closAt
  rw [if_pos (by omega)]
  rcases drop_one h with ⟨h1, h2⟩ | ⟨y, t, h1, h2, h3, h4⟩
  · rw [h2, clos]
  · rw [h2, clos, hb, hx, hy y h1]; simp

theorem closAt_next {l : List UInt8} {q : UInt8} {bs : Bool} {k : Nat} {x : UInt8} (h : l[k]? = some x) (hb : (x == 92 && bs) = false) (hx : (x == q) = false) : closAt l q bs k = closAt l q bs (k + 1) := by
  have hk : k < l.length := (List.getElem?_eq_some_iff.1 h).1
  unfold closAt
  rw [if_pos (by omega), if_pos (by omega)]
  rcases drop_one h with ⟨h1, h2⟩ | ⟨y, t, h1, h2, h3, h4⟩
  · rw [h2, List.drop_eq_nil_of_le (by omega), clos, clos]
  · rw [h2, h3, clos, hb, hx]; simp; omega

/-- The comment from its depth on. -/
def com (nst : Bool) : Nat → List UInt8 → Nat
  | _, [] => 0
  | _, [_] => 1
  | d, c :: e :: t => if c == 47 && e == 42 && nst then 2 + com nst (d + 1) t else if c == 42 && e == 47 then (if d ≤ 1 then 2 else 2 + com nst (d - 1) t) else 1 + com nst d (e :: t)

theorem com_le (nst : Bool) : ∀ (l : List UInt8) (d : Nat), com nst d l ≤ l.length
  | [], _ => by simp [com]
  | [_], _ => by simp [com]
  | c :: e :: t, d => by
    have h1 := com_le nst t
    have h2 := com_le nst (e :: t) d
    have h3 := h1 (d + 1)
    have h4 := h1 (d - 1)
    rw [com]
    simp only [List.length_cons] at *
    repeat' split
    all_goals omega

def comAt (l : List UInt8) (nst : Bool) (d k : Nat) : Nat := k + com nst d (l.drop k)

theorem comAt_le (l : List UInt8) (nst : Bool) (d k : Nat) (h : k ≤ l.length) : k ≤ comAt l nst d k ∧ comAt l nst d k ≤ l.length := by
  have := com_le nst (l.drop k) d
  rw [List.length_drop] at this
  unfold comAt; omega

theorem comAt_end {l : List UInt8} {nst : Bool} {d k : Nat} (hk : k ≤ l.length) (h : l.length ≤ k + 1) : comAt l nst d k = l.length := by
  unfold comAt
  rcases (by omega : k = l.length ∨ k + 1 = l.length) with rfl | h1
  · rw [List.drop_length, com]; rfl
  · have h2 : k < l.length := by omega
    rw [List.drop_eq_getElem_cons h2, List.drop_eq_nil_of_le (by omega), com]; omega

theorem comAt_up {l : List UInt8} {d k : Nat} {x y : UInt8} (hx : l[k]? = some x) (hy : l[k + 1]? = some y) (h1 : (x == 47) = true) (h2 : (y == 42) = true) : comAt l true d k = comAt l true (d + 1) (k + 2) := by
  unfold comAt
  rw [drop_at hx, drop_at hy, com, h1, h2, show k + 1 + 1 = k + 2 from rfl]; simp; omega

theorem comAt_shut {l : List UInt8} {nst : Bool} {d k : Nat} {x y : UInt8} (hx : l[k]? = some x) (hy : l[k + 1]? = some y) (h1 : (x == 42) = true) (h2 : (y == 47) = true) (hd : d ≤ 1) : comAt l nst d k = k + 2 := by
  have : x = 42 := by simpa using h1
  subst this
  unfold comAt
  rw [drop_at hx, drop_at hy, com, h2]; simp [hd]

theorem comAt_down {l : List UInt8} {nst : Bool} {d k : Nat} {x y : UInt8} (hx : l[k]? = some x) (hy : l[k + 1]? = some y) (h1 : (x == 42) = true) (h2 : (y == 47) = true) (hd : ¬ d ≤ 1) : comAt l nst d k = comAt l nst (d - 1) (k + 2) := by
  have : x = 42 := by simpa using h1
  subst this
  unfold comAt
  rw [drop_at hx, drop_at hy, com, h2, show k + 1 + 1 = k + 2 from rfl]; simp [hd]; omega

theorem comAt_next {l : List UInt8} {nst : Bool} {d k : Nat} {x y : UInt8} (hx : l[k]? = some x) (hy : l[k + 1]? = some y) (h1 : (x == 47 && y == 42 && nst) = false) (h2 : (x == 42 && y == 47) = false) : comAt l nst d k = comAt l nst d (k + 1) := by
  unfold comAt
  rw [drop_at hx, drop_at hy, com, h1, h2]; simp; omega

/-- An escape string and what goes on with it. -/
def esc : Nat → List UInt8 → Nat
  | 0, _ => 0
  | n + 1, l => match cont false false (l.drop (clos 39 true l)) with
    | none => clos 39 true l
    | some k => clos 39 true l + k + esc n (l.drop (clos 39 true l + k))

theorem esc_le : ∀ (n : Nat) (l : List UInt8), esc n l ≤ l.length
  | 0, _ => Nat.zero_le _
  | n + 1, l => by
    have h0 := clos_le 39 true l
    rw [esc]
    split
    · exact h0
    · rename_i k hk
      have h1 := cont_pos _ _ _ _ hk
      rw [List.length_drop] at h1
      have h2 := esc_le n (l.drop (clos 39 true l + k))
      rw [List.length_drop] at h2
      omega

theorem esc_fuel : ∀ (n m : Nat) (l : List UInt8), l.length < n → l.length < m → esc n l = esc m l
  | 0, _, _, h, _ => absurd h (Nat.not_lt_zero _)
  | _, 0, _, _, h => absurd h (Nat.not_lt_zero _)
  | n + 1, m + 1, l, h1, h2 => by
    rw [esc, esc]
    split
    · rfl
    · rename_i k hk
      have h3 := cont_pos _ _ _ _ hk
      rw [List.length_drop] at h3
      rw [esc_fuel n m (l.drop (clos 39 true l + k)) (by rw [List.length_drop]; omega) (by rw [List.length_drop]; omega)]

def escOf (l : List UInt8) : Nat := esc (l.length + 1) l
def escAt (l : List UInt8) (k : Nat) : Nat := k + escOf (l.drop k)

theorem escAt_stop {l : List UInt8} {k : Nat} (hk : k ≤ l.length) (h : contAt l (closAt l 39 true k) = closAt l 39 true k) : escAt l k = closAt l 39 true k := by
  have hc := closAt_le l 39 true k hk
  unfold escAt escOf
  have e : closAt l 39 true k = k + clos 39 true (l.drop k) := by unfold closAt; rw [if_pos hk]
  rw [e] at h ⊢
  unfold contAt at h
  rw [esc]
  have e2 : (l.drop k).drop (clos 39 true (l.drop k)) = l.drop (k + clos 39 true (l.drop k)) := by rw [List.drop_drop]
  rw [e2]
  cases hq : cont false false (l.drop (k + clos 39 true (l.drop k))) with
  | none => rfl
  | some m =>
    rw [hq] at h
    have := (cont_pos _ _ _ _ hq).1
    simp only at h
    omega

theorem escAt_go {l : List UInt8} {k r : Nat} (hk : k ≤ l.length) (hr : contAt l (closAt l 39 true k) = r) (h : r ≠ closAt l 39 true k) : escAt l k = escAt l r ∧ k < r ∧ r ≤ l.length := by
  have hc := closAt_le l 39 true k hk
  have hcb := contAt_le l _ hc.2
  have e : closAt l 39 true k = k + clos 39 true (l.drop k) := by unfold closAt; rw [if_pos hk]
  refine ⟨?_, by omega, by omega⟩
  unfold escAt escOf
  rw [esc]
  have e2 : (l.drop k).drop (clos 39 true (l.drop k)) = l.drop (k + clos 39 true (l.drop k)) := by rw [List.drop_drop]
  rw [e2]
  rw [e] at hr h
  unfold contAt at hr
  cases hq : cont false false (l.drop (k + clos 39 true (l.drop k))) with
  | none => rw [hq] at hr; exact absurd hr.symm h
  | some m =>
    rw [hq] at hr
    simp only at hr ⊢
    have hm := cont_pos _ _ _ _ hq
    rw [List.length_drop] at hm
    rw [List.drop_drop, show k + (clos 39 true (l.drop k) + m) = r from by omega]
    rw [esc_fuel (l.drop k).length ((l.drop r).length + 1) (l.drop r) (by simp only [List.length_drop]; omega) (by omega)]
    omega

theorem escAt_le (l : List UInt8) (k : Nat) (h : k ≤ l.length) : k ≤ escAt l k ∧ escAt l k ≤ l.length := by
  have := esc_le ((l.drop k).length + 1) (l.drop k)
  unfold escAt escOf
  simp only [List.length_drop] at *
  omega

/-- How many bytes at the head are of a kind. -/
def run (p : UInt8 → Bool) (l : List UInt8) : Nat := (l.takeWhile p).length
theorem run_nil (p : UInt8 → Bool) : run p [] = 0 := rfl
theorem run_yes {p : UInt8 → Bool} {x : UInt8} {t : List UInt8} (h : p x = true) : run p (x :: t) = run p t + 1 := by simp [run, h]
theorem run_no {p : UInt8 → Bool} {x : UInt8} {t : List UInt8} (h : p x = false) : run p (x :: t) = 0 := by simp [run, h]
theorem run_le (p : UInt8 → Bool) (l : List UInt8) : run p l ≤ l.length := (List.takeWhile_sublist p).length_le
def runAt (p : UInt8 → Bool) (l : List UInt8) (k : Nat) : Nat := k + run p (l.drop k)
theorem runAt_yes {p : UInt8 → Bool} {l : List UInt8} {k : Nat} {x : UInt8} (h : l[k]? = some x) (hp : p x = true) : runAt p l k = runAt p l (k + 1) := by
  unfold runAt; rw [drop_at h, run_yes hp]; omega
theorem runAt_no {p : UInt8 → Bool} {l : List UInt8} {k : Nat} {x : UInt8} (h : l[k]? = some x) (hp : p x = false) : runAt p l k = k := by
  unfold runAt; rw [drop_at h, run_no hp]; rfl
theorem runAt_end {p : UInt8 → Bool} {l : List UInt8} {k : Nat} (h : l.length ≤ k) : runAt p l k = k := by
  unfold runAt; rw [List.drop_eq_nil_of_le h, run_nil]; rfl
theorem runAt_le (p : UInt8 → Bool) (l : List UInt8) (k : Nat) (h : k ≤ l.length) : k ≤ runAt p l k ∧ runAt p l k ≤ l.length := by
  have := run_le p (l.drop k)
  rw [List.length_drop] at this
  unfold runAt; omega

/-- Where the tag of a dollar quote ends: counted from behind the first dollar. -/
def tagLen (t : List UInt8) : Nat := match t with
  | [] => 0
  | c :: t => if isWS c then 1 + run isTag t else 0

def dol (l : List UInt8) : Nat :=
  if (l.drop (1 + tagLen (l.drop 1))).head? = some 36 then
    (if Lib.index (l.drop (tagLen (l.drop 1) + 2)) (l.take (tagLen (l.drop 1) + 2)) < 0 then l.length
     else tagLen (l.drop 1) + 2 + (Lib.index (l.drop (tagLen (l.drop 1) + 2)) (l.take (tagLen (l.drop 1) + 2))).toNat + (tagLen (l.drop 1) + 2))
  else 0
end Sq
end Go.Proofs.Qxb6603812a
