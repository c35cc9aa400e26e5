import Derived.Test.Qxb6605332aDoorMem2
namespace Go.Proofs.Qxb6605332aDoor
open Go.RowKit

/-- What stands at each step: the row, and all below B as it was in w0. -/
structure St (w0 : World) (B : Nat) (w : World) (v : Value) (bs : List UInt8) : Prop where
  own : OwnB w B v bs
  kept : Kept B w0 w
  size : B ≤ w.heap.size

theorem OwnB.mono {w w' : World} {B : Nat} {v : Value} {bs : List UInt8} (h : OwnB w B v bs) (hb : Below w.heap.size w w') : OwnB w' B v bs := by
  refine ⟨h.1, ?_⟩
  rcases h.2 with h0 | ⟨g, cap, cur, rfl, hB, hg, hr⟩
  · exact .inl h0
  · have hlt : g < w.heap.size := (Array.getElem?_eq_some_iff.1 hg).1
    exact .inr ⟨g, cap, cur, rfl, hB, (hb.block g hlt).trans hg, hr⟩

theorem St.cells {w0 w : World} {B : Nat} {v : Value} {bs : List UInt8} (h : St w0 B w v bs) : ∀ b o, b < B → w.cell? ⟨b, o, none⟩ = w0.cell? ⟨b, o, none⟩ := h.kept.cells

theorem St.step {w0 w w' : World} {B : Nat} {v v' : Value} {bs bs' : List UInt8} (h : St w0 B w v bs) (ho : OwnB w' B v' bs') (hk : Kept B w w') : St w0 B w' v' bs' :=
  ⟨ho, h.kept.trans hk, Nat.le_trans h.size hk.below.size⟩

theorem St.alloc {w0 w : World} {B : Nat} {v : Value} {bs : List UInt8} (h : St w0 B w v bs) (o : Obj) : St w0 B (w.alloc o) v bs :=
  ⟨h.own.alloc o, h.kept.alloc h.size o, by have := h.size; simp; omega⟩

theorem St.drew {w0 w : World} {B : Nat} {v : Value} {bs : List UInt8} (h : St w0 B w v bs) : St w0 B w.drew v bs := ⟨h.own, h.kept.drew, h.size⟩

section
variable (w : World)
theorem wpList_st_str {ops : Array Oper} {rest : List Oper} {o : Oper} {a : Act} {Q : Exit → Act → World → Prop} (hgd : o.guard = none) (sl x : Operand)
    (ho : o.op = .call { callee := .builtin .append, args := #[sl, x], argTypes := #[25, 9] }) (w0 : World) (B : Nat)
    (v : Value) (bs : List UInt8) (hs : a.eval sl = v) (hst : St w0 B w v bs) (s : ByteArray) (hx : a.eval x = .string s) (hlim : bs.length + s.size ≤ 1099511627776)
    (h : ∀ v' w', St w0 B w' v' (bs ++ s.data.toList) → (∀ b o, b < B → w'.cell? ⟨b, o, none⟩ = w0.cell? ⟨b, o, none⟩) → wpList Tryd.prog ops Q rest (a.put o.dst v') w') : wpList Tryd.prog ops Q (o :: rest) a w :=
  wpList_app_str w hgd sl x ho B v bs hs hst.own s hx hlim hst.size fun v' w' h1 h2 _ => h v' w' (hst.step h1 h2) (hst.step h1 h2).cells

theorem wpList_st_first {ops : Array Oper} {rest : List Oper} {o : Oper} {a : Act} {Q : Exit → Act → World → Prop} (hgd : o.guard = none) (sl x : Operand)
    (ho : o.op = .call { callee := .builtin .append, args := #[sl, x], argTypes := #[25, 9] })
    (v : Value) (bs : List UInt8) (hs : a.eval sl = v) (ht : Tight w v bs) (s : ByteArray) (hx : a.eval x = .string s) (hs1 : 1 ≤ s.size) (hlim : bs.length + s.size ≤ 1099511627776)
    (h : ∀ v' w', St w w.heap.size w' v' (bs ++ s.data.toList) → (∀ b o, b < w.heap.size → w'.cell? ⟨b, o, none⟩ = w.cell? ⟨b, o, none⟩) → wpList Tryd.prog ops Q rest (a.put o.dst v') w') : wpList Tryd.prog ops Q (o :: rest) a w :=
  wpList_app_first w hgd sl x ho v bs hs ht s hx hs1 hlim fun v' w' h1 h2 h3 => h v' w' ⟨h1, h2, h3⟩ h2.cells

theorem wpList_st_bytes {ops : Array Oper} {rest : List Oper} {o : Oper} {a : Act} {Q : Exit → Act → World → Prop} (hgd : o.guard = none) (sl x : Operand)
    (ho : o.op = .call { callee := .builtin .append, args := #[sl, x], argTypes := #[25, 25] }) (w0 : World) (B : Nat)
    (v : Value) (bs : List UInt8) (hs : a.eval sl = v) (hst : St w0 B w v bs) (ad : Addr) (m c : Nat) (ys : List UInt8) (hx : a.eval x = .slice (some ad) m c) (hm : ys.length = m)
    (hc : ∀ i, i < ys.length → w.cell? (ad.add i) = some (.int .u8 ((ys.getD i 0).toNat : Int))) (hlim : bs.length + m ≤ 1099511627776)
    (h : ∀ v' w', St w0 B w' v' (bs ++ ys) → (∀ b o, b < B → w'.cell? ⟨b, o, none⟩ = w0.cell? ⟨b, o, none⟩) → wpList Tryd.prog ops Q rest (a.put o.dst v') w') : wpList Tryd.prog ops Q (o :: rest) a w :=
  wpList_app_bytes w hgd sl x ho B v bs hs hst.own ad m c ys hx hm hc hlim hst.size fun v' w' h1 h2 _ => h v' w' (hst.step h1 h2) (hst.step h1 h2).cells
end

theorem appendInt_st (w0 : World) (B : Nat) (i : Int) (h0 : -9223372036854775808 ≤ i) (h1 : i ≤ 9223372036854775807) (sv : Value) (bs : List UInt8) (w : World) (hst : St w0 B w sv bs) (hlim : bs.length ≤ 1099511627776)
    (htab : Lib.TabBelow Tryd.prog B w0 "internal/strconv.uint64pow10" .u64 Lib.pow10Tab) :
    Calls Tryd.prog 19 #[sv, .int .i64 i, .int .i64 10] w fun e w' => ∃ v', e = .returned v' ∧ St w0 B w' v' (bs ++ Lib.itoa i) ∧ ∀ b o, b < B → w'.cell? ⟨b, o, none⟩ = w0.cell? ⟨b, o, none⟩ := by
  refine (Tryd.strconv_AppendInt_10 B bs.length i h0 h1 sv (Lib.byteCells bs) w hst.own hst.size (by omega) (htab.on hst.kept.below)).mono ?_
  rintro e w' ⟨v', rfl, ho, hb, hk⟩
  rw [byteCells_append, ← List.length_append] at ho
  exact ⟨v', rfl, hst.step ho ⟨hb, hk⟩, (hst.step ho ⟨hb, hk⟩).cells⟩

theorem statusText_st (w0 : World) (B : Nat) (i : Int) (h0 : -9223372036854775808 ≤ i) (h1 : i ≤ 9223372036854775807) (sv : Value) (bs : List UInt8) (w : World) (hst : St w0 B w sv bs)
    (htab : Lib.TabBelow Tryd.prog B w0 "internal/strconv.uint64pow10" .u64 Lib.pow10Tab) :
    Calls Tryd.prog 15 #[.int .i64 i] w fun e w' => e = .returned (.string ⟨(Hd.stText i).toArray⟩) ∧ St w0 B w' sv bs ∧ ∀ b o, b < B → w'.cell? ⟨b, o, none⟩ = w0.cell? ⟨b, o, none⟩ := by
  refine (statusText_any w.heap.size i h0 h1 w (Nat.le_refl _) (htab.on hst.kept.below).here).mono ?_
  rintro e w' ⟨rfl, hk, hz⟩
  have hk2 : Kept B w w' := ⟨hk.below.mono hst.size, hk.others⟩
  exact ⟨rfl, hst.step (hst.own.mono hk.below) hk2, (hst.step (hst.own.mono hk.below) hk2).cells⟩

theorem cell_space (w : World) : ∀ i, i < ([32] : List UInt8).length → (w.alloc (.cells #[.int .u8 32] 5)).cell? (Addr.add ⟨w.heap.size, 0, none⟩ i) = some (.int .u8 ((([32] : List UInt8).getD i 0).toNat : Int)) := by
  intro i hi
  have : i = 0 := by simp at hi; omega
  subst this
  simp [Addr.add_lit]

theorem run_app_nil (w : World) (B : Nat) (v : Value) (bs : List UInt8) (ty : TypeId) (h : OwnB w B v bs) : (Builtin.append_ #[25, 25] ty #[v, .slice none 0 0]).run Tryd.prog w = .ok v w := by
  obtain ⟨i, hi, hz, h1, h2⟩ := info5_ex
  have hf := run_firstCells_none (P := Tryd.prog) w 1 0 0 0
  rcases h.2 with ⟨rfl, hn⟩ | ⟨g, cap, cur, rfl, hB, hg, hnc, hcm, hcs, htk⟩
  · simp [Builtin.append_, run_underlying Tryd.underlying25, sizeOf, typeInfo, hi, h1, Builtin.lenOf, hf]
  · simp [Builtin.append_, run_underlying Tryd.underlying25, sizeOf, typeInfo, hi, h1, Builtin.lenOf, hf, hnc, storeCells]

/-- 'append(b, nil...)'. -/
theorem wpList_st_nil (w : World) {ops : Array Oper} {rest : List Oper} {o : Oper} {a : Act} {Q : Exit → Act → World → Prop} (hgd : o.guard = none) (sl x : Operand)
    (ho : o.op = .call { callee := .builtin .append, args := #[sl, x], argTypes := #[25, 25] }) (w0 : World) (B : Nat)
    (v : Value) (bs : List UInt8) (hs : a.eval sl = v) (hst : St w0 B w v bs) (hx : a.eval x = .slice none 0 0)
    (h : wpList Tryd.prog ops Q rest (a.put o.dst v) w) : wpList Tryd.prog ops Q (o :: rest) a w := by
  refine wpList_plain hgd fun K hK => ?_
  have hr := run_app_nil w B v bs o.type hst.own
  unfold Oper.wp execOp
  simp only [ho, resolve, invoke, builtin, Sem.run_bind, Sem.run_pure, Result.andThen_ok, List.map_toArray, List.map_cons, List.map_nil, hs, hx, hr]
  exact hK _ _ h

/-- The fields of a head, as they lie. -/
def FieldsAt (w : World) (hv : Value) (hs : List (ByteArray × ByteArray)) : Prop :=
  (hv = .slice none 0 0 ∧ hs = []) ∨ ∃ g cap, hv = .slice (some ⟨g, 0, none⟩) hs.length cap ∧ g < w.heap.size ∧ ∀ i p, hs[i]? = some p → w.cell? ⟨g, i * 2, none⟩ = some (.string p.1) ∧ w.cell? ⟨g, i * 2 + 1, none⟩ = some (.string p.2)

/-- Bytes that lie somewhere. -/
def BytesAt (w : World) (v : Value) (bs : List UInt8) : Prop :=
  (v = .slice none 0 0 ∧ bs = []) ∨ ∃ g c, v = .slice (some ⟨g, 0, none⟩) bs.length c ∧ g < w.heap.size ∧ ∀ i, i < bs.length → w.cell? ⟨g, i, none⟩ = some (.int .u8 ((bs.getD i 0).toNat : Int))
end Go.Proofs.Qxb6605332aDoor
