import Derived.Test.Qxb6603812aPlain
import Derived.Lib.IndexBytes
namespace Go.Proofs.Qxb6603812a
namespace Sq

theorem byte_beq (x y : UInt8) : ((x.toNat : Int) == (y.toNat : Int)) = (x == y) := by
  by_cases h : x = y
  · subst h; simp
  · have h1 : (x == y) = false := beq_eq_false_iff_ne.2 h
    rw [h1]
    refine beq_eq_false_iff_ne.2 fun e => h (UInt8.toNat_inj.1 (by omega))

/-- What holds when 'continuation' stands at k, 'b': a break was met. -/
def CInv (l : List UInt8) (i : Nat) (b : Bool) (k : Nat) : Prop := contAt l i = match cont b false (l.drop k) with
  | some m => k + m
  | none => i

theorem cinv_start (l : List UInt8) (i : Nat) : CInv l i false i := rfl

theorem drop_at {l : List UInt8} {k : Nat} {x : UInt8} (h : l[k]? = some x) : l.drop k = x :: l.drop (k + 1) := by
  obtain ⟨h1, h2⟩ := List.getElem?_eq_some_iff.1 h
  rw [List.drop_eq_getElem_cons h1, h2]

theorem cinv_of {l : List UInt8} {i k k' : Nat} {b b' : Bool} (e : Nat) (he : k' = k + e) (h : CInv l i b k) (hc : cont b false (l.drop k) = (cont b' false (l.drop k')).map (· + e)) : CInv l i b' k' := by
  unfold CInv at *
  rw [h, hc]
  cases cont b' false (l.drop k') with
  | none => rfl
  | some m => subst he; show k + (m + e) = k + e + m; omega

theorem cinv_none {l : List UInt8} {i k : Nat} {b : Bool} (h : CInv l i b k) (hc : cont b false (l.drop k) = none) : contAt l i = i := by
  unfold CInv at h; rw [h, hc]

theorem cinv_some {l : List UInt8} {i k m : Nat} {b : Bool} (h : CInv l i b k) (hc : cont b false (l.drop k) = some m) : contAt l i = k + m := by
  unfold CInv at h; rw [h, hc]

theorem cinv_brk {l : List UInt8} {i k : Nat} {b : Bool} {x : UInt8} (h : CInv l i b k) (hx : l[k]? = some x) (hb : isBrk x = true) : CInv l i true (k + 1) :=
  cinv_of 1 rfl h (by rw [drop_at hx, cont, if_pos hb])

theorem cinv_sp {l : List UInt8} {i k : Nat} {b : Bool} {x : UInt8} (h : CInv l i b k) (hx : l[k]? = some x) (hb : isBrk x = false) (hs : isSp x = true) : CInv l i b (k + 1) :=
  cinv_of 1 rfl h (by rw [drop_at hx, cont, hb, hs]; rfl)

theorem two_of_prefix {l : List UInt8} (hp : Lib.hasPrefix l [45, 45] = true) : ∃ t, l = 45 :: 45 :: t := by
  obtain ⟨t, ht⟩ := List.isPrefixOf_iff_prefix.1 hp
  exact ⟨t, ht.symm⟩

theorem cinv_dash_none {l : List UInt8} {i k : Nat} {b : Bool} (h : CInv l i b k) (hp : Lib.hasPrefix (l.drop k) [45, 45] = true) (he : Lib.indexAny (l.drop k) [10, 13] < 0) : contAt l i = i := by
  obtain ⟨t, ht⟩ := two_of_prefix hp
  have := Lib.indexAny_ge [10, 13] (l.drop k)
  exact cinv_none h (by rw [ht]; exact cont_dash_none b t (by rw [← ht]; omega))

theorem cinv_dash_some {l : List UInt8} {i k : Nat} {b : Bool} {e : Int} (h : CInv l i b k) (hp : Lib.hasPrefix (l.drop k) [45, 45] = true) (he : Lib.indexAny (l.drop k) [10, 13] = e) (h0 : 0 ≤ e) : CInv l i b (k + e.toNat) := by
  obtain ⟨t, ht⟩ := two_of_prefix hp
  obtain ⟨_, h2⟩ := cont_dash_some b t e.toNat (by rw [← ht, he]; omega)
  refine cinv_of e.toNat rfl h ?_
  rw [← List.drop_drop, ht]
  exact h2

theorem indexAny_lt : ∀ (l : List UInt8) (c : List UInt8), l ≠ [] → Lib.indexAny l c < l.length
  | [], _, h => absurd rfl h
  | b :: l, c, _ => by
    rw [Lib.indexAny]
    split
    · simp
    · split
      · simp; omega
      · cases l with
        | nil => simp [Lib.indexAny]
        | cons a t =>
          have := indexAny_lt (a :: t) c (by simp)
          simp only [List.length_cons] at *
          omega

theorem indexAny_dash {l : List UInt8} {k : Nat} {e : Int} (hk : k ≤ l.length) (hp : Lib.hasPrefix (l.drop k) [45, 45] = true) (he : Lib.indexAny (l.drop k) [10, 13] = e) : -1 ≤ e ∧ e + k < l.length ∧ (0 ≤ e → 2 ≤ e) := by
  obtain ⟨t, ht⟩ := two_of_prefix hp
  have h1 := Lib.indexAny_ge [10, 13] (l.drop k)
  have h2 := indexAny_lt (l.drop k) [10, 13] (by rw [ht]; simp)
  rw [List.length_drop] at h2
  refine ⟨by omega, by omega, fun h0 => ?_⟩
  have := (cont_dash_some false t e.toNat (by rw [← ht, he]; omega)).1
  omega

theorem cinv_quote {l : List UInt8} {i k : Nat} {x : UInt8} (h : CInv l i true k) (hx : l[k]? = some x) (hb : isBrk x = false) (hs : isSp x = false) (hp : Lib.hasPrefix (l.drop k) [45, 45] = false) (hq : (x == 39) = true) : contAt l i = k + 1 := by
  refine cinv_some h ?_
  rw [drop_at hx] at hp ⊢
  have : x = 39 := by simpa using hq
  subst this
  rw [cont, hb, hs]
  simp

theorem cinv_other {l : List UInt8} {i k : Nat} {b : Bool} {x : UInt8} (h : CInv l i b k) (hx : l[k]? = some x) (hb : isBrk x = false) (hs : isSp x = false) (hp : Lib.hasPrefix (l.drop k) [45, 45] = false) (hq : (x == 39 && b) = false) : contAt l i = i := by
  refine cinv_none h ?_
  rw [drop_at hx] at hp ⊢
  have hd : (x == 45 && (l.drop (k + 1)).head? == some 45) = false := by
    cases hl : l.drop (k + 1) with
    | nil => simp
    | cons a t =>
      rw [hl] at hp
      simp [Lib.hasPrefix, List.isPrefixOf] at hp
      simp only [List.head?_cons, Bool.and_eq_false_iff, beq_eq_false_iff_ne, ne_eq, Option.some.injEq]
      by_cases hx : x = 45
      · exact .inr fun h => hp hx.symm h.symm
      · exact .inl hx
  rw [cont, hb, hs, hd, hq]
  rfl

theorem cinv_end {l : List UInt8} {i k : Nat} {b : Bool} (h : CInv l i b k) (hk : l.length ≤ k) : contAt l i = i :=
  cinv_none h (by rw [List.drop_eq_nil_of_le hk, cont])

end Sq
end Go.Proofs.Qxb6603812a
