import Derived.Test.Qxb6605332aDoorMem3
namespace Go.Proofs.Qxb6605332aDoor
open Go.RowKit

/-- .. and a field in a block of its own. -/
structure Sx (w0 : World) (B : Nat) (w : World) (v : Value) (bs : List UInt8) (kb : Nat) (nm vl : ByteArray) : Prop where
  st : St w0 B w v bs
  box : w.heap[kb]? = some (.cells #[.string nm, .string vl] 42)

theorem Sx.cell0 {w0 w : World} {B kb : Nat} {v : Value} {bs : List UInt8} {nm vl : ByteArray} (h : Sx w0 B w v bs kb nm vl) : w.cell? ⟨kb, 0, none⟩ = some (.string nm) := by
  simp [World.cell?, h.box]
theorem Sx.cell1 {w0 w : World} {B kb : Nat} {v : Value} {bs : List UInt8} {nm vl : ByteArray} (h : Sx w0 B w v bs kb nm vl) : w.cell? ⟨kb, 1, none⟩ = some (.string vl) := by
  simp [World.cell?, h.box]

theorem sx_alloc {w0 w : World} {B : Nat} {v : Value} {bs : List UInt8} (h : St w0 B w v bs) (nm vl : ByteArray) : Sx w0 B (w.alloc (.cells #[.string nm, .string vl] 42)) v bs w.heap.size nm vl :=
  ⟨h.alloc _, heap_alloc_new w _⟩

section
variable (w : World)
theorem wpList_sx_str {ops : Array Oper} {rest : List Oper} {o : Oper} {a : Act} {Q : Exit → Act → World → Prop} (hgd : o.guard = none) (sl x : Operand)
    (ho : o.op = .call { callee := .builtin .append, args := #[sl, x], argTypes := #[25, 9] }) (w0 : World) (B : Nat)
    (v : Value) (bs : List UInt8) (kb : Nat) (nm vl : ByteArray) (hs : a.eval sl = v) (hst : Sx w0 B w v bs kb nm vl) (s : ByteArray) (hx : a.eval x = .string s) (hlim : bs.length + s.size ≤ 1099511627776)
    (h : ∀ v' w', Sx w0 B w' v' (bs ++ s.data.toList) kb nm vl → w'.cell? ⟨kb, 0, none⟩ = some (.string nm) → w'.cell? ⟨kb, 1, none⟩ = some (.string vl) → wpList Tryd.prog ops Q rest (a.put o.dst v') w') : wpList Tryd.prog ops Q (o :: rest) a w :=
  wpList_app_str w hgd sl x ho B v bs hs hst.st.own s hx hlim hst.st.size fun v' w' h1 h2 _ =>
    have hx' : Sx w0 B w' v' (bs ++ s.data.toList) kb nm vl := ⟨hst.st.step h1 h2, h2.others kb _ hst.box (by simp) (by intro c fz; simp)⟩
    h v' w' hx' hx'.cell0 hx'.cell1
end

/-- A field's bytes in a head. -/
def fieldBytes (p : ByteArray × ByteArray) : List UInt8 := [13, 10] ++ p.1.data.toList ++ [58, 32] ++ p.2.data.toList

theorem fieldBytes_len (p : ByteArray × ByteArray) : (fieldBytes p).length = p.1.size + p.2.size + 4 := by
  unfold fieldBytes
  simp only [List.length_append, List.length_cons, List.length_nil, ← Lib.size_eq]
  omega

theorem flat_len : ∀ (hs : List (ByteArray × ByteArray)) (k : Nat), ((hs.take k).flatMap fieldBytes).length ≤ (hs.map fun p => p.1.size + p.2.size + 4).sum
  | [], k => by simp
  | p :: hs, 0 => by simp
  | p :: hs, k + 1 => by
    have := flat_len hs k
    rw [List.take_succ_cons, List.flatMap_cons, List.length_append, fieldBytes_len, List.map_cons, List.sum_cons]
    omega

theorem mem_sum_le : ∀ (hs : List (ByteArray × ByteArray)) (k : Nat) (p : ByteArray × ByteArray), hs[k]? = some p → p.1.size + p.2.size + 4 ≤ (hs.map fun p => p.1.size + p.2.size + 4).sum
  | [], k, p, h => by simp at h
  | q :: hs, 0, p, h => by
    simp at h; subst h
    rw [List.map_cons, List.sum_cons]; omega
  | q :: hs, k + 1, p, h => by
    have := mem_sum_le hs k p (by simpa using h)
    rw [List.map_cons, List.sum_cons]; omega
end Go.Proofs.Qxb6605332aDoor
