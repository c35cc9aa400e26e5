import Derived.Test.Qxb6605332aDoorShelf
import Derived.WalkKit
import Derived.WalkSpells
import Derived.WalkLawsBesides
import Derived.Lib.AppendStr
import Derived.Lib.OthersKept
import Derived.Lib.AppendIntMem
import Derived.Deep.LoopGhost
namespace Go.Proofs.Qxb6605332aDoor
open Go.RowKit

theorem info5 : (Tryd.prog.info? 5).map (fun i => (i.zero, i.size, i.bytes)) = some (some (.int .u8 0), 1, 1) := by kernel_rfl

theorem info5_ex : ∃ i, Tryd.prog.info? 5 = some i ∧ i.zero = some (.int .u8 0) ∧ i.size = 1 ∧ i.bytes = 1 := by
  cases h : Tryd.prog.info? 5 with
  | none => have := info5; rw [h] at this; cases this
  | some i =>
    have := info5
    rw [h] at this
    simp only [Option.map_some, Option.some.injEq, Prod.mk.injEq] at this
    exact ⟨i, rfl, this.1, this.2.1, this.2.2⟩

/-- v is a row of bytes of the call's own, from block B on. -/
def OwnB (w : World) (B : Nat) (v : Value) (bs : List UInt8) : Prop := w.ownsRow B 5 1 v bs.length (Lib.byteCells bs)

theorem OwnB.shape {w : World} {B : Nat} {v : Value} {bs : List UInt8} (h : OwnB w B v bs) : (v = .slice none 0 0 ∧ bs = []) ∨ ∃ g cap, v = .slice (some ⟨g, 0, none⟩) bs.length cap ∧ B ≤ g ∧ g < w.heap.size ∧ ∀ i, i < bs.length → w.cell? ⟨g, i, none⟩ = some (.int .u8 ((bs.getD i 0).toNat : Int)) := by
  rcases h.2 with ⟨rfl, hn⟩ | ⟨g, cap, cur, rfl, hB, hg, hnc, hcm, hcs, htk⟩
  · exact .inl ⟨rfl, List.length_eq_zero_iff.1 hn⟩
  · refine .inr ⟨g, cap, rfl, hB, (Array.getElem?_eq_some_iff.1 hg).1, fun i hi => ?_⟩
    have h1 : (Lib.byteCells bs)[i]? = some (.int .u8 ((bs.getD i 0).toNat : Int)) := by
      unfold Lib.byteCells
      rw [List.getElem?_map, List.getElem?_eq_getElem hi, List.getD_eq_getElem?_getD, List.getElem?_eq_getElem hi]; rfl
    rw [← htk, List.getElem?_take_of_lt (by omega), Array.getElem?_toList] at h1
    simp [World.cell?, hg, h1]

theorem OwnB.alloc {w : World} {B : Nat} {v : Value} {bs : List UInt8} (h : OwnB w B v bs) (o : Obj) : OwnB (w.alloc o) B v bs := by
  refine ⟨h.1, ?_⟩
  rcases h.2 with h0 | ⟨g, cap, cur, rfl, hB, hg, hr⟩
  · exact .inl h0
  · have hlt : g < w.heap.size := (Array.getElem?_eq_some_iff.1 hg).1
    exact .inr ⟨g, cap, cur, rfl, hB, (Below.heap_alloc w o g hlt).trans hg, hr⟩

theorem OwnB.drew {w : World} {B : Nat} {v : Value} {bs : List UInt8} (h : OwnB w B v bs) : OwnB w.drew B v bs := h

/-- An owned row's block is a row of bytes. -/
theorem OwnB.kind {w : World} {B : Nat} {v : Value} {bs : List UInt8} (h : OwnB w B v bs) : ∀ g, v.ownBlock = some g → B ≤ g ∧ ∃ c fz, w.heap[g]? = some (.cells c 5 fz) := by
  intro g hg
  rcases h.2 with ⟨rfl, _⟩ | ⟨g', cap, cur, rfl, hB, hgg, _⟩
  · simp [Value.ownBlock] at hg
  · simp [Value.ownBlock] at hg
    subst hg
    exact ⟨hB, cur, _, hgg⟩

theorem strCells_eq (s : ByteArray) : Lib.strCells s = Lib.byteCells s.data.toList := rfl

theorem byteCells_append (a b : List UInt8) : Lib.byteCells a ++ Lib.byteCells b = Lib.byteCells (a ++ b) := by
  unfold Lib.byteCells; rw [List.map_append]

theorem byteCells_one (l : List UInt8) : ∀ u ∈ Lib.byteCells l, u.oneCell' = true := by
  intro u hu
  obtain ⟨_, _, rfl⟩ := List.mem_map.1 hu
  rfl

/-- What an append onto an owned row leaves as it was. -/
structure Kept (B : Nat) (w w' : World) : Prop where
  below : Below B w w'
  others : Lib.OthersKept 5 none w w'

theorem Kept.refl (B : Nat) (w : World) : Kept B w w := ⟨Below.refl _ _, Lib.OthersKept.refl _ _ _⟩
theorem Kept.trans {B : Nat} {a b c : World} (h : Kept B a b) (k : Kept B b c) : Kept B a c := ⟨h.below.trans k.below, h.others.trans k.others⟩
theorem Kept.alloc {B : Nat} {a w : World} (h : Kept B a w) (hB : B ≤ w.heap.size) (o : Obj) : Kept B a (w.alloc o) := ⟨h.below.alloc hB o, h.others.alloc o⟩
theorem Kept.drew {B : Nat} {a w : World} (h : Kept B a w) : Kept B a w.drew := ⟨h.below.drew, h.others⟩
theorem Kept.cells {B : Nat} {a w : World} (h : Kept B a w) : ∀ b o, b < B → w.cell? ⟨b, o, none⟩ = a.cell? ⟨b, o, none⟩ := fun b o hb => h.below.cell (p := ⟨b, o, none⟩) hb

theorem kept_of_grown {B : Nat} {w w' : World} {v : Value} {bs : List UInt8} (hown : OwnB w B v bs) (hB : B ≤ w.heap.size) (hg : w.grownBy w' v.ownBlock) : Kept B w w' :=
  ⟨(Below.refl B w).grown hg hB (fun k hk => (hown.kind k hk).1), (Lib.OthersKept.refl 5 none w).grown hg (fun g h => (hown.kind g h).2)⟩

section
variable (w : World)
/-- 'append(b, s...)', s a string, b a row of the call's own. -/
theorem wpList_app_str {ops : Array Oper} {rest : List Oper} {o : Oper} {a : Act} {Q : Exit → Act → World → Prop} (hgd : o.guard = none) (sl x : Operand)
    (ho : o.op = .call { callee := .builtin .append, args := #[sl, x], argTypes := #[25, 9] }) (B : Nat)
    (v : Value) (bs : List UInt8) (hs : a.eval sl = v) (hown : OwnB w B v bs) (s : ByteArray) (hx : a.eval x = .string s) (hlim : bs.length + s.size ≤ 1099511627776) (hB : B ≤ w.heap.size)
    (h : ∀ v' w', OwnB w' B v' (bs ++ s.data.toList) → Kept B w w' → w.heap.size ≤ w'.heap.size → wpList Tryd.prog ops Q rest (a.put o.dst v') w') : wpList Tryd.prog ops Q (o :: rest) a w := by
  obtain ⟨i, hi, hz, h1, h2⟩ := info5_ex
  refine Lib.wpList_append_own_string w hgd sl x 25 9 ho B 5 i Tryd.underlying25 Tryd.underlying9 hi hz h1 h2 v bs.length (Lib.byteCells bs) hs hown s hx (by unfold maxLen; omega) (by omega) hB ?_
  intro v' w' ho' hg _
  rw [strCells_eq, byteCells_append] at ho'
  have e : bs.length + s.size = (bs ++ s.data.toList).length := by rw [List.length_append, Lib.size_eq]
  rw [e] at ho'
  exact h v' w' ho' (kept_of_grown hown hB hg) hg.size

/-- 'append(b, c...)', c bytes that lie somewhere. -/
theorem wpList_app_bytes {ops : Array Oper} {rest : List Oper} {o : Oper} {a : Act} {Q : Exit → Act → World → Prop} (hgd : o.guard = none) (sl x : Operand)
    (ho : o.op = .call { callee := .builtin .append, args := #[sl, x], argTypes := #[25, 25] }) (B : Nat)
    (v : Value) (bs : List UInt8) (hs : a.eval sl = v) (hown : OwnB w B v bs) (ad : Addr) (m c : Nat) (ys : List UInt8) (hx : a.eval x = .slice (some ad) m c) (hm : ys.length = m)
    (hc : ∀ i, i < ys.length → w.cell? (ad.add i) = some (.int .u8 ((ys.getD i 0).toNat : Int))) (hlim : bs.length + m ≤ 1099511627776) (hB : B ≤ w.heap.size)
    (h : ∀ v' w', OwnB w' B v' (bs ++ ys) → Kept B w w' → w.heap.size ≤ w'.heap.size → wpList Tryd.prog ops Q rest (a.put o.dst v') w') : wpList Tryd.prog ops Q (o :: rest) a w := by
  obtain ⟨i, hi, hz, h1, h2⟩ := info5_ex
  refine wpList_append_own w hgd sl x 25 ho B 5 i (.int .u8 0) 1 1 Tryd.underlying25 hi hz h1 h2 rfl (by omega) v bs.length (Lib.byteCells bs) hs hown ad m c (Lib.byteCells ys) hx (by rw [Lib.byteCells_length]; omega) ?_ (byteCells_one _) (by unfold maxLen; omega) (by omega) hB ?_
  · intro j u hu
    unfold Lib.byteCells at hu
    rw [List.getElem?_map] at hu
    cases hj : ys[j]? with
    | none => rw [hj] at hu; cases hu
    | some b =>
      rw [hj] at hu
      cases hu
      have hlt : j < ys.length := (List.getElem?_eq_some_iff.1 hj).1
      rw [hc j hlt, List.getD_eq_getElem?_getD, hj]; rfl
  · intro v' w' ho' hg _
    rw [byteCells_append] at ho'
    have e : bs.length + m = (bs ++ ys).length := by rw [List.length_append, hm]
    rw [e] at ho'
    exact h v' w' ho' (kept_of_grown hown hB hg) hg.size
end
end Go.Proofs.Qxb6605332aDoor
