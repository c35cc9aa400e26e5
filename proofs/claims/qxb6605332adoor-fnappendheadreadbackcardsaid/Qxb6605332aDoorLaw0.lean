import Derived.Test.Qxb6605332aDoorWrap
namespace Go.Proofs.Qxb6605332aDoor
open Go.RowKit

theorem InB.lit {w : World} {v : Value} {bs : List UInt8} (h : InB w v bs) : ∃ a c, v = .slice a bs.length c := by
  rcases h with ⟨rfl, rfl⟩ | ⟨x, cap, rfl, _⟩
  · exact ⟨_, _, rfl⟩
  · exact ⟨_, _, rfl⟩
theorem InF.lit {w : World} {v : Value} {bs : List (ByteArray × ByteArray)} (h : InF w v bs) : ∃ a c, v = .slice a bs.length c := by
  rcases h with ⟨rfl, rfl⟩ | ⟨x, cap, rfl, _⟩
  · exact ⟨_, _, rfl⟩
  · exact ⟨_, _, rfl⟩
theorem Cl.lit {w : World} {H : Nat} {v : Value} {bs : List UInt8} (h : Cl w H v bs) : ∃ a, v = .slice a bs.length bs.length := by
  rcases h with ⟨rfl, rfl⟩ | ⟨rfl, _⟩
  · exact ⟨_, rfl⟩
  · exact ⟨_, rfl⟩
theorem ClF.lit {w : World} {H : Nat} {v : Value} {bs : List (ByteArray × ByteArray)} (h : ClF w H v bs) : ∃ a, v = .slice a bs.length bs.length := by
  rcases h with ⟨rfl, rfl⟩ | ⟨rfl, _⟩
  · exact ⟨_, rfl⟩
  · exact ⟨_, rfl⟩

theorem cell_lt {w : World} {a : Addr} {v : Value} (h : w.cell? a = some v) : a.block < w.heap.size := World.block_lt_of_cell? w a h

theorem InB.on {w w' : World} {v : Value} {bs : List UInt8} (h : InB w v bs) (hb : Below w.heap.size w w') : InB w' v bs := by
  rcases h with h | ⟨x, cap, e, h1, h2, h3⟩
  · exact .inl h
  · exact .inr ⟨x, cap, e, h1, h2, fun i hi => (hb.cell (cell_lt (h3 i hi))).trans (h3 i hi)⟩
theorem InF.on {w w' : World} {v : Value} {bs : List (ByteArray × ByteArray)} (h : InF w v bs) (hb : Below w.heap.size w w') : InF w' v bs := by
  rcases h with h | ⟨x, cap, e, h1, h2, h3⟩
  · exact .inl h
  · exact .inr ⟨x, cap, e, h1, h2, fun i p hp => ⟨(hb.cell (cell_lt (h3 i p hp).1)).trans (h3 i p hp).1, (hb.cell (cell_lt (h3 i p hp).2)).trans (h3 i p hp).2⟩⟩
theorem Cl.on {w w' : World} {H : Nat} {v : Value} {bs : List UInt8} (h : Cl w H v bs) (hb : Below w.heap.size w w') : Cl w' H v bs := by
  rcases h with h | ⟨e, h1, h3⟩
  · exact .inl h
  · exact .inr ⟨e, Nat.lt_of_lt_of_le h1 hb.size, fun i hi => (hb.cell (cell_lt (h3 i hi))).trans (h3 i hi)⟩
theorem ClF.on {w w' : World} {H : Nat} {v : Value} {bs : List (ByteArray × ByteArray)} (h : ClF w H v bs) (hb : Below w.heap.size w w') : ClF w' H v bs := by
  rcases h with h | ⟨e, h1, h3⟩
  · exact .inl h
  · exact .inr ⟨e, Nat.lt_of_lt_of_le h1 hb.size, fun i p hp => ⟨(hb.cell (cell_lt (h3 i p hp).1)).trans (h3 i p hp).1, (hb.cell (cell_lt (h3 i p hp).2)).trans (h3 i p hp).2⟩⟩
theorem Cl.tight {w : World} {H : Nat} {v : Value} {bs : List UInt8} (h : Cl w H v bs) : Tight w v bs := by
  rcases h with h | ⟨e, h1, h3⟩
  · exact .inl h
  · exact .inr ⟨H, e, h3⟩
theorem Cl.at {w : World} {H : Nat} {v : Value} {bs : List UInt8} (h : Cl w H v bs) : BytesAt w v bs := by
  rcases h with h | ⟨e, h1, h3⟩
  · exact .inl h
  · exact .inr ⟨H, _, e, h1, h3⟩
theorem ClF.at {w : World} {H : Nat} {v : Value} {bs : List (ByteArray × ByteArray)} (h : ClF w H v bs) : FieldsAt w v bs := by
  rcases h with h | ⟨e, h1, h3⟩
  · exact .inl h
  · exact .inr ⟨H, _, e, h1, h3⟩
theorem ClF.inF {w : World} {H : Nat} {v : Value} {bs : List (ByteArray × ByteArray)} (h : ClF w H v bs) (hl : bs.length ≤ 1048576) : InF w v bs := by
  rcases h with h | ⟨e, h1, h3⟩
  · exact .inl h
  · exact .inr ⟨_, _, e, Nat.le_refl _, by unfold maxLen; omega, fun i p hp => by rw [Addr.add_lit, Addr.add_lit, Nat.zero_add, Nat.zero_add]; exact h3 i p hp⟩
theorem InF.hdr {w : World} {a : Option Addr} {n c : Nat} {bs : List (ByteArray × ByteArray)} (h : InF w (.slice a n c) bs) : HdrAt w a bs := by
  intro i p hp
  rcases h with ⟨_, rfl⟩ | ⟨⟨xb, xo, xs⟩, cap, e, _, _, h3⟩
  · simp at hp
  · cases e
    have hlen : 0 < bs.length := by have := (List.getElem?_eq_some_iff.1 hp).1; omega
    have hs : xs = none := spot_none (h3 0 bs[0] (List.getElem?_eq_getElem hlen)).1
    subst hs
    have := h3 i p hp
    rw [Addr.add_lit, Addr.add_lit] at this
    exact ⟨xb, xo, rfl, this.1, this.2⟩
theorem HdrAt.on {w w' : World} {a : Option Addr} {bs : List (ByteArray × ByteArray)} (h : HdrAt w a bs) (hb : Below w.heap.size w w') : HdrAt w' a bs := by
  intro i p hp
  obtain ⟨xb, xo, e, h1, h2⟩ := h i p hp
  exact ⟨xb, xo, e, (hb.cell (cell_lt h1)).trans h1, (hb.cell (cell_lt h2)).trans h2⟩

theorem OwnB.shape2 {w : World} {B : Nat} {v : Value} {bs : List UInt8} (h : OwnB w B v bs) (h0 : 0 < bs.length) : ∃ g cap, v = .slice (some ⟨g, 0, none⟩) bs.length cap ∧ bs.length ≤ cap ∧ cap ≤ maxLen ∧ B ≤ g ∧ g < w.heap.size ∧ ∀ i, i < bs.length → w.cell? ⟨g, i, none⟩ = some (.int .u8 ((bs.getD i 0).toNat : Int)) := by
  have hk := h
  rcases h.2 with ⟨rfl, hn⟩ | ⟨g, cap, cur, rfl, hB, hg, hnc, hcm, hcs, htk⟩
  · omega
  · rcases hk.shape with ⟨e, _⟩ | ⟨g', cap', e, h1, h2, h3⟩
    · cases e
    · cases e
      exact ⟨g, cap, rfl, hnc, hcm, h1, h2, h3⟩

theorem fsum_mem {hs : List (ByteArray × ByteArray)} {k : Nat} {p : ByteArray × ByteArray} (h : hs[k]? = some p) : p.1.size + p.2.size ≤ fsum hs := by
  induction hs generalizing k with
  | nil => simp at h
  | cons q hs ih =>
    cases k with
    | zero => simp at h; subst h; unfold fsum; simp
    | succ k => have := ih (by simpa using h); unfold fsum at this ⊢; rw [List.map_cons, List.sum_cons]; omega
theorem fsum_take_le (hs : List (ByteArray × ByteArray)) : ∀ k, fsum (hs.take k) ≤ fsum hs := by
  induction hs with
  | nil => intro k; simp
  | cons q hs ih =>
    intro k
    cases k with
    | zero => simp [fsum]
    | succ k => have := ih k; unfold fsum at this ⊢; rw [List.take_succ_cons, List.map_cons, List.sum_cons, List.map_cons, List.sum_cons]; omega
theorem sum4_eq (hs : List (ByteArray × ByteArray)) : (hs.map fun p => p.1.size + p.2.size + 4).sum = fsum hs + 4 * hs.length := by
  induction hs with
  | nil => rfl
  | cons q hs ih => unfold fsum at ih ⊢; rw [List.map_cons, List.sum_cons, List.map_cons, List.sum_cons, ih, List.length_cons]; omega
theorem enc_len (l : List UInt8) (ls : List (List UInt8)) : 4 ≤ (Hd.enc l ls).length := by unfold Hd.enc; simp; omega

theorem enc_len_le (l : List UInt8) (ls : List (List UInt8)) : (Hd.enc l ls).length = l.length + (ls.map fun x => x.length + 2).sum + 4 := by
  unfold Hd.enc
  rw [List.length_append, List.length_append, List.length_flatMap]
  simp

theorem fields_len (hs : List (ByteArray × ByteArray)) : (((hs.map fun p => (p.1.data.toList, p.2.data.toList)).map (fun p => p.1 ++ [58, 32] ++ p.2)).map fun x => x.length + 2).sum = fsum hs + 4 * hs.length := by
  induction hs with
  | nil => rfl
  | cons q hs ih =>
    rw [List.map_cons, List.map_cons, List.map_cons, List.sum_cons, ih]
    unfold fsum
    rw [List.map_cons, List.sum_cons, List.length_cons]
    simp only [List.length_append, List.length_cons, List.length_nil, ← Lib.size_eq]
    omega

theorem head_len (http10 opn : Bool) (st : Int) (ct date : List UInt8) (bl : Nat) (hs : List (ByteArray × ByteArray)) (hlo : -9223372036854775808 ≤ st) (hhi : st ≤ 9223372036854775807) (z1 : ct.length ≤ 1048576) (z2 : date.length ≤ 1048576) (z3 : bl ≤ 1048576) (z4 : fsum hs + 4 * hs.length ≤ 8388608) :
    (Hd.head http10 opn st ct bl date (hs.map fun p => (p.1.data.toList, p.2.data.toList))).length ≤ 20000000 := by
  have q1 := Lib.itoa_length_le st hlo hhi
  have q2 := Hd.stText_len st hlo hhi
  have q3 := Lib.itoa_length_le (bl : Int) (by omega) (by omega)
  have q4 : (Hd.line0 http10 st).length ≤ 200 := by
    unfold Hd.line0
    cases http10 <;> simp <;> omega
  have q5 : (((if ct.isEmpty then [] else [[67, 111, 110, 116, 101, 110, 116, 45, 84, 121, 112, 101, 58, 32] ++ ct]) : List (List UInt8)).map fun x => x.length + 2).sum ≤ 2000000 := by
    split
    · simp
    · simp; omega
  have q6 : (((if opn then (if http10 then [[67, 111, 110, 110, 101, 99, 116, 105, 111, 110, 58, 32, 107, 101, 101, 112, 45, 97, 108, 105, 118, 101]] else []) else [[67, 111, 110, 110, 101, 99, 116, 105, 111, 110, 58, 32, 99, 108, 111, 115, 101]]) : List (List UInt8)).map fun x => x.length + 2).sum ≤ 100 := by
    cases opn <;> cases http10 <;> simp
  have q7 := fields_len hs
  unfold Hd.head
  rw [enc_len_le]
  unfold Hd.lines
  rw [List.map_append, List.map_append, List.map_append, List.sum_append_nat, List.sum_append_nat, List.sum_append_nat, q7]
  simp only [List.map_cons, List.map_nil, List.sum_cons, List.sum_nil, List.length_append, List.length_cons, List.length_nil]
  omega
end Go.Proofs.Qxb6605332aDoor
