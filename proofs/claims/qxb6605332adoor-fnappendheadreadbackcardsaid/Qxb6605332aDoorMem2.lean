import Derived.Test.Qxb6605332aDoorStatus
namespace Go.Proofs.Qxb6605332aDoor
open Go.RowKit

/-- Bytes with no room behind them: what a clone hands back. -/
def Tight (w : World) (v : Value) (bs : List UInt8) : Prop :=
  (v = .slice none 0 0 ∧ bs = []) ∨ ∃ g, v = .slice (some ⟨g, 0, none⟩) bs.length bs.length ∧ ∀ i, i < bs.length → w.cell? ⟨g, i, none⟩ = some (.int .u8 ((bs.getD i 0).toNat : Int))

section
variable (w : World)
/-- The first append: onto a clone: a new row. -/
theorem wpList_app_first {ops : Array Oper} {rest : List Oper} {o : Oper} {a : Act} {Q : Exit → Act → World → Prop} (hgd : o.guard = none) (sl x : Operand)
    (ho : o.op = .call { callee := .builtin .append, args := #[sl, x], argTypes := #[25, 9] })
    (v : Value) (bs : List UInt8) (hs : a.eval sl = v) (ht : Tight w v bs) (s : ByteArray) (hx : a.eval x = .string s) (hs1 : 1 ≤ s.size) (hlim : bs.length + s.size ≤ 1099511627776)
    (h : ∀ v' w', OwnB w' w.heap.size v' (bs ++ s.data.toList) → Kept w.heap.size w w' → w.heap.size ≤ w'.heap.size → wpList Tryd.prog ops Q rest (a.put o.dst v') w') : wpList Tryd.prog ops Q (o :: rest) a w := by
  rcases ht with ⟨rfl, rfl⟩ | ⟨g, rfl, hc⟩
  · exact wpList_app_str w hgd sl x ho w.heap.size _ [] hs (World.ownsRow_nil w _ 5 1) s hx hlim (Nat.le_refl _) h
  · obtain ⟨i, hi, hz, h1, h2⟩ := info5_ex
    refine wpList_plain hgd fun K hK => ?_
    have hsize := Lib.size_eq s
    have hmx : bs.length + s.size ≤ maxLen := by unfold maxLen; omega
    have hfit : Builtin.nextslicecap (bs.length + s.size) bs.length * i.bytes ≤ 281474976710656 := by
      rw [h2]
      have := nextslicecap_le (show bs.length < bs.length + s.size by omega)
      omega
    have hr := Lib.run_append_grow_string (P := Tryd.prog) w 25 9 o.type 5 i (.int .u8 0) Tryd.underlying25 Tryd.underlying9 hi hz ⟨g, 0, none⟩ bs.length bs.length (Lib.byteCells bs) (by rw [Lib.byteCells_length, h1]; omega) (by
      intro j u hu
      unfold Lib.byteCells at hu
      rw [List.getElem?_map] at hu
      cases hj : bs[j]? with
      | none => rw [hj] at hu; cases hu
      | some b =>
        rw [hj] at hu
        cases hu
        have hlt : j < bs.length := (List.getElem?_eq_some_iff.1 hj).1
        have := hc j hlt
        rw [List.getD_eq_getElem?_getD, hj] at this
        simpa [Addr.add_lit] using this) s (by omega) (by omega) hfit
    unfold Oper.wp execOp
    simp only [ho, resolve, invoke, builtin, Sem.run_bind, Sem.run_pure, Result.andThen_ok, List.map_toArray, List.map_cons, List.map_nil, hs, hx, hr]
    refine hK _ _ (h _ _ ?_ ?_ ?_)
    · have hge := grownCap_ge w (bs.length + s.size) bs.length 5
      have hcm : grownCap w (bs.length + s.size) bs.length 5 ≤ maxLen := grownCap_le_maxLen w (bs.length + s.size) bs.length 5 hmx
      have hlen : (bs ++ s.data.toList).length = bs.length + s.size := by rw [List.length_append, ← hsize]
      unfold OwnB
      rw [hlen]
      refine ⟨by rw [Lib.byteCells_length, hlen]; omega, .inr ⟨w.heap.size, _, _, rfl, Nat.le_refl _, heap_alloc_new w.drew _, hge, hcm, ?_, ?_⟩⟩
      · have hz1 : (Value.int IntKind.u8 0).cells.size = 1 := rfl
        simp only [Array.size_append, List.size_toArray, size_zeroCells, hz1, Lib.byteCells_length, Lib.strCells_length]
        omega
      · simp only [Array.toList_append, List.append_assoc]
        rw [strCells_eq, ← List.append_assoc, byteCells_append, show (bs.length + s.size) * 1 = (Lib.byteCells (bs ++ s.data.toList)).length from by rw [Lib.byteCells_length, hlen]; omega]
        exact List.take_left
    · exact (Kept.refl _ _).drew.alloc (Nat.le_refl _) _
    · show w.heap.size ≤ (w.drew.alloc _).heap.size
      simp
end
end Go.Proofs.Qxb6605332aDoor
