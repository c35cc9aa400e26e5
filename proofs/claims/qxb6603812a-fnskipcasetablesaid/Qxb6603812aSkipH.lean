import Derived.Test.Qxb6603812aSkipG
namespace Go.Proofs.Qxb6603812a
open Go.RowKit

/-- skip answers 'skp', from the index on. -/
theorem skip_any (f : Sq.Fl) (s : ByteArray) (i : Nat) (m : Int) (w : World) (hs : s.size ≤ 1048577) (hi : i < s.size)
    (hmz : 0 < w.heap.size) (hm : w.cell? ⟨0, 0, none⟩ = some (.int .i64 m)) :
    Calls Try.prog 21 #[.agg #[.bool f.ps, .bool f.bs, .bool f.es, .bool f.dq, .bool f.bt, .bool f.hc, .bool f.sd, .bool f.nc, .bool f.ec, .map none], .string s, .int .i64 i] w fun e w' =>
      e = .returned (.int .i64 ((i + Sq.skp f (Sq.fwAt s.data.toList i) (s.data.toList.drop i) : Nat) : Int)) ∧ Below w.heap.size w w' := by
  have hlen := Lib.size_eq s
  have hp : 0 < (s.extract i s.size).size := by rw [Lib.size_eq, Lib.extract_to_end, List.length_drop, ← hlen]; omega
  have hxi := Lib.data_getElem? s i hi
  have hx0 : (s.extract i s.size)[0]'hp = s[i] := by
    have h1 := Lib.data_getElem? (s.extract i s.size) 0 hp
    rw [Lib.extract_to_end, List.getElem?_drop, Nat.add_zero, hxi] at h1
    exact (Option.some.inj h1).symm
  have hdr := Sq.drop_at hxi
  have hh : (s.data.toList.drop i).headD 0 = s[i] := by rw [hdr]; rfl
  have B39 : (((s[i].toNat : Nat) : Int) == 39) = (s[i] == 39) := Sq.byte_beq s[i] 39
  have B34 : (((s[i].toNat : Nat) : Int) == 34) = (s[i] == 34) := Sq.byte_beq s[i] 34
  have B96 : (((s[i].toNat : Nat) : Int) == 96) = (s[i] == 96) := Sq.byte_beq s[i] 96
  obtain ⟨ps, bs, es, dq, bt, hc, sd, nc, ec⟩ := f
  cases e39 : s[i] == 39 with
  | true =>
    refine (skip_quote ps bs es dq bt hc sd nc ec s i s[i] w hs hi hp hx0 (.inl (by rw [B39, e39]))).mono ?_
    rintro e w' ⟨rfl, hb⟩
    refine ⟨ret_int (congrArg _ ?_), hb⟩
    rw [Sq.skp_Q (by rw [hh, e39]; rfl), hh, List.drop_drop]
    unfold Sq.closAt
    rw [if_pos (by omega)]
    exact Nat.add_assoc i 1 _
  | false =>
    cases e34 : s[i] == 34 with
    | true =>
      refine (skip_quote ps bs es dq bt hc sd nc ec s i s[i] w hs hi hp hx0 (.inr ⟨by rw [B39, e39], by rw [B34, e34]⟩)).mono ?_
      rintro e w' ⟨rfl, hb⟩
      refine ⟨ret_int (congrArg _ ?_), hb⟩
      rw [Sq.skp_Q (by rw [hh, e34]; simp), hh, List.drop_drop]
      unfold Sq.closAt
      rw [if_pos (by omega)]
      exact Nat.add_assoc i 1 _
    | false =>
      have N1 : ((s.data.toList.drop i).headD 0 == 39 || (s.data.toList.drop i).headD 0 == 34) = false := by rw [hh, e39, e34]; rfl
      cases e96 : (s[i] == 96 && bt) with
      | true =>
        have ⟨h1, h2⟩ := Bool.and_eq_true_iff.1 e96
        subst h2
        refine (skip_tick ps bs es dq hc sd nc ec s i s[i] w hs hi hp hx0 (by rw [B39, e39]) (by rw [B34, e34]) (by rw [B96, h1])).mono ?_
        rintro e w' ⟨rfl, hb⟩
        refine ⟨ret_int (congrArg _ ?_), hb⟩
        rw [Sq.skp_T N1 (by rw [hh]; exact e96), List.drop_drop]
        unfold Sq.closAt
        rw [if_pos (by omega)]; omega
      | false =>
        refine skip_rest ps bs es dq bt hc sd nc ec s i s[i] m w hs hi hmz hm hp hx0 (by rw [B39, e39]) (by rw [B34, e34]) ?_ _ rfl _ rfl ?_ hh _ _ _ _ _ _
          (by rw [Hid, Lib.extract_to_end]) (by rw [Hid, Lib.extract_to_end]) (by rw [Hid, Lib.extract_to_end]) (by rw [Hid, Lib.extract_to_end]) (by rw [Hid, Lib.extract_to_end]) (by rw [Hid, Lib.extract_to_end])
          rfl rfl rfl rfl rfl rfl _ rfl N1 (by rw [Hid, hh]; exact e96)
        · rw [B96]
          cases h : s[i] == 96 with
          | true => rw [h] at e96; exact .inl ⟨rfl, by simpa using e96⟩
          | false => exact .inr rfl
        · rw [Hid, List.length_drop, ← hlen]
end Go.Proofs.Qxb6603812a
