import Derived.Test.Qxb6603812aSkipB
namespace Go.Proofs.Qxb6603812a
open Go.RowKit

theorem closing_q (s : ByteArray) (i q' : Int) (q : UInt8) (bs : Bool) (w : World) (hs : s.size ≤ 1048577) (h0 : 0 ≤ i) (hi : i ≤ s.size) (hq : ((q.toNat : Nat) : Int) = q') :
    Calls Try.prog 25 #[.string s, .int .i64 i, .int .u8 q', .bool bs] w fun e w' => e = .returned (.int .i64 (Sq.closAt s.data.toList q bs i.toNat)) ∧ w' = w := by
  subst hq
  obtain ⟨n, rfl⟩ := Int.eq_ofNat_of_zero_le h0
  rw [Int.toNat_natCast]
  exact closing_any s n q bs w hs (by omega)

set_option maxHeartbeats 1000000 in
set_option maxRecDepth 100000 in
theorem escapeString_any (s : ByteArray) (i : Nat) (w : World) (hs : s.size ≤ 1048577) (hi : i ≤ s.size) :
    Calls Try.prog 27 #[.string s, .int .i64 i] w fun e w' => e = .returned (.int .i64 (Sq.escAt s.data.toList i)) ∧ Below w.heap.size w w' := by
  have HL : Hid (s.data.toList.length = s.size) := (Lib.size_eq s).symm
  go_enter Try.func27, Try.ntmps27
  go_wp2
  go_loopw [1] (fun a wx => ∃ k : Nat, k ≤ s.size ∧ a = .int .i64 k ∧ Hid (Sq.escAt s.data.toList k = Sq.escAt s.data.toList i) ∧ Hid (Below w.heap.size w wx)) (fun a _ => s.size - (intOf a).toNat)
  case atStart => exact ⟨i, by omega, rfl, rfl, Below.refl _ _⟩
  case round =>
    obtain ⟨k, hk, rfl, HI, HB⟩ := hrel
    obtain ⟨c, hc⟩ : ∃ c, Sq.closAt s.data.toList 39 true k = c := ⟨_, rfl⟩
    obtain ⟨r, hr⟩ : ∃ r, Sq.contAt s.data.toList c = r := ⟨_, rfl⟩
    have hcb := Sq.closAt_le s.data.toList 39 true k (by rw [HL.out]; exact hk)
    rw [hc, HL.out] at hcb
    have hrb := Sq.contAt_le s.data.toList c (by rw [HL.out]; exact hcb.2)
    rw [hr, HL.out] at hrb
    have Hc : Hid (Sq.closAt s.data.toList 39 true k = c) := hc
    have Hr : Hid (Sq.contAt s.data.toList c = r) := hr
    clear hc hr
    obtain ⟨g1, g2⟩ := hcb
    obtain ⟨g3, g4⟩ := hrb
    by_cases hrc : r = c
    · have e1 : ((r : Int) == (c : Int)) = true := beq_iff_eq.2 (by omega)
      have HF : Hid (Sq.escAt s.data.toList i = c) := by
        rw [Hid, ← HI.out, Sq.escAt_stop (by rw [HL.out]; exact hk) (by rw [Hc.out, Hr.out, hrc]), Hc.out]
      clear hrc
      go_wp2_with (first
        | (go_at_call 25; refine (closing_q _ _ _ 39 _ _ hs (by omega) (by omega) (by decide)).mono ?_; rintro e w1 ⟨rfl, rfl⟩; rw [Int.toNat_natCast, Hc.out])
        | (go_at_call 20; refine (continuation_any _ _ _ hs (by omega)).mono ?_; rintro e w2 ⟨rfl, hb2⟩; rw [Hr.out]))
      go_ret
      exact ⟨ret_int (by rw [HF.out]), HB.out.trans (hb2.mono HB.out.size)⟩
    · have e1 : ((r : Int) == (c : Int)) = false := beq_eq_false_iff_ne.2 (by omega)
      obtain ⟨f1, f2, f3⟩ := Sq.escAt_go (l := s.data.toList) (k := k) (r := r) (by rw [HL.out]; exact hk) (by rw [Hc.out, Hr.out]) (by rw [Hc.out]; exact hrc)
      rw [HI.out] at f1
      have HF : Hid (Sq.escAt s.data.toList i = Sq.escAt s.data.toList r) := f1
      clear f1 f3 hrc
      go_wp2_with (first
        | (go_at_call 25; refine (closing_q _ _ _ 39 _ _ hs (by omega) (by omega) (by decide)).mono ?_; rintro e w1 ⟨rfl, rfl⟩; rw [Int.toNat_natCast, Hc.out])
        | (go_at_call 20; refine (continuation_any _ _ _ hs (by omega)).mono ?_; rintro e w2 ⟨rfl, hb2⟩; rw [Hr.out]))
      go_roundw
      case rel => exact ⟨r, g4, rfl, HF.out.symm, HB.out.trans (hb2.mono HB.out.size)⟩
      case measure => simp [intOf]; omega

namespace Sq
theorem index_bound : ∀ (l sub : List UInt8), 0 ≤ Lib.index l sub → Lib.index l sub + sub.length ≤ l.length
  | [], sub, h => by
    rw [Lib.index] at h ⊢
    cases sub with
    | nil => simp
    | cons a t => simp at h
  | b :: l, sub, h => by
    rw [Lib.index] at h ⊢
    by_cases hp : sub.isPrefixOf (b :: l) = true
    · have := (List.isPrefixOf_iff_prefix.1 hp).length_le
      rw [if_pos hp]; omega
    · rw [if_neg hp] at h ⊢
      by_cases hm : (Lib.index l sub == -1) = true
      · rw [if_pos hm] at h; omega
      · rw [if_neg hm] at h ⊢
        have h2 : Lib.index l sub ≠ -1 := by simpa using hm
        have h3 := Lib.index_ge l sub
        have := index_bound l sub (by omega)
        rw [List.length_cons]; omega

def dolAt (l : List UInt8) (i : Nat) : Nat := i + dol (l.drop i)
def dolJ (l : List UInt8) (i : Nat) : Nat := i + 1 + tagLen (l.drop (i + 1))

theorem dolJ_zero {l : List UInt8} {i : Nat} (h : ∀ x, l[i + 1]? = some x → isWS x = false) : dolJ l i = i + 1 := by
  unfold dolJ
  cases hd : l.drop (i + 1) with
  | nil => rfl
  | cons x t =>
    have hx : l[i + 1]? = some x := by
      have := List.getElem?_drop (xs := l) (i := i + 1) (j := 0)
      rw [hd] at this
      simpa using this.symm
    rw [tagLen, h x hx]; rfl

theorem dolJ_run {l : List UInt8} {i : Nat} {x : UInt8} (hx : l[i + 1]? = some x) (h : isWS x = true) : dolJ l i = runAt isTag l (i + 2) := by
  unfold dolJ runAt
  rw [drop_at hx, tagLen, if_pos h, show i + 1 + 1 = i + 2 from rfl]
  omega

theorem dolJ_le (l : List UInt8) (i : Nat) (h : i + 1 ≤ l.length) : i + 1 ≤ dolJ l i ∧ dolJ l i ≤ l.length := by
  by_cases hx : ∃ x, l[i + 1]? = some x ∧ isWS x = true
  · obtain ⟨x, h1, h2⟩ := hx
    have h3 : i + 1 < l.length := (List.getElem?_eq_some_iff.1 h1).1
    have := runAt_le isTag l (i + 2) (by omega)
    rw [dolJ_run h1 h2]; omega
  · rw [dolJ_zero (fun x hx' => by cases hw : isWS x; · rfl
                                   · exact absurd ⟨x, hx', hw⟩ hx)]
    omega

theorem dol_head (l : List UInt8) (i : Nat) : ((l.drop i).drop (1 + tagLen ((l.drop i).drop 1))).head? = l[dolJ l i]? := by
  unfold dolJ
  rw [List.drop_drop, List.drop_drop, List.head?_drop, show i + (1 + tagLen (l.drop (i + 1))) = i + 1 + tagLen (l.drop (i + 1)) from by omega]

theorem dolAt_no {l : List UInt8} {i k : Nat} (hk : dolJ l i = k) (h : l[k]? ≠ some 36) : dolAt l i = i := by
  unfold dolAt dol
  rw [dol_head, hk, if_neg h]; rfl

theorem dolAt_yes {l : List UInt8} {i k : Nat} (hk : dolJ l i = k) (h : l[k]? = some 36) : dolAt l i =
    if Lib.index (l.drop (k + 1)) ((l.drop i).take (k + 1 - i)) < 0 then l.length else k + 1 + (Lib.index (l.drop (k + 1)) ((l.drop i).take (k + 1 - i))).toNat + (k + 1 - i) := by
  have hlt : k < l.length := (List.getElem?_eq_some_iff.1 h).1
  have e1 : tagLen ((l.drop i).drop 1) + 2 = k + 1 - i := by
    rw [← hk]; unfold dolJ; rw [List.drop_drop]; omega
  have hik : i + 1 ≤ k := by rw [← hk]; unfold dolJ; omega
  unfold dolAt dol
  rw [dol_head, hk, if_pos h, e1, List.drop_drop, show i + (k + 1 - i) = k + 1 from by omega, List.length_drop]
  split
  · omega
  · omega
end Sq

set_option maxHeartbeats 1000000 in
set_option maxRecDepth 100000 in
/-- From the tag's end on. -/
theorem dollarQuoted_flat (s : ByteArray) (i : Nat) (m : Int) (w : World) (hs : s.size ≤ 1048577) (hi : i + 1 ≤ s.size) (hm : w.cell? ⟨0, 0, none⟩ = some (.int .i64 m))
    (hws : ∀ x, s.data.toList[i + 1]? = some x → Sq.isWS x = false) :
    Calls Try.prog 28 #[.string s, .int .i64 i] w fun e w' => e = .returned (.int .i64 (Sq.dolAt s.data.toList i)) ∧ w' = w := by
  have HL : Hid (s.data.toList.length = s.size) := (Lib.size_eq s).symm
  have HJ : Hid (Sq.dolJ s.data.toList i = i + 1) := Sq.dolJ_zero hws
  by_cases hend : i + 1 = s.size
  · have e1 : ((i : Int) + 1 == (s.size : Int)) = true := beq_iff_eq.2 (by omega)
    have HF : Hid (Sq.dolAt s.data.toList i = i) := Sq.dolAt_no HJ.out (by rw [List.getElem?_eq_none (by rw [HL.out]; omega)]; simp)
    have hnl : s.size ≤ i + 1 := by omega
    clear hend hws
    go_enter Try.func28, Try.ntmps28
    go_wp2
    go_ret
    exact ⟨ret_int (by rw [HF.out]), rfl⟩
  · have hlt : i + 1 < s.size := by omega
    obtain ⟨x, hx⟩ : ∃ x : UInt8, s[i + 1]'hlt = x := ⟨_, rfl⟩
    have Hx : Hid (s.data.toList[i + 1]? = some x) := by rw [← hx]; exact Lib.data_getElem? s (i + 1) hlt
    have hw1 := hws x Hx.out
    have e1 : ((i : Int) + 1 == (s.size : Int)) = false := beq_eq_false_iff_ne.2 (by omega)
    have B36 : Hid (((x.toNat : Int) != 36) = (x != 36)) := Sq.byte_bne x 36
    clear hend hws
    cases e36 : ((x.toNat : Int) != 36) with
    | true =>
      have HF : Hid (Sq.dolAt s.data.toList i = i) := Sq.dolAt_no HJ.out (by
        rw [Hx.out]
        have h := B36.out
        rw [e36] at h
        intro he
        cases he
        revert h; decide)
      go_enter Try.func28, Try.ntmps28
      go_wp2_with (go_at_call 37; refine (isWordStart_any x _).mono ?_; rintro e w' ⟨rfl, rfl⟩; rw [hw1])
      go_ret
      exact ⟨ret_int (by rw [HF.out]), rfl⟩
    | false =>
      have hx36 : x = 36 := by
        have h := B36.out
        rw [e36] at h
        simpa using h.symm
      obtain ⟨e, he⟩ : ∃ e, Lib.index (s.data.toList.drop (i + 1 + 1)) ((s.data.toList.drop i).take (i + 1 + 1 - i)) = e := ⟨_, rfl⟩
      have HF := Sq.dolAt_yes HJ.out (by rw [Hx.out, hx36])
      have hb := Sq.index_bound (s.data.toList.drop (i + 1 + 1)) ((s.data.toList.drop i).take (i + 1 + 1 - i))
      rw [he] at HF hb
      rw [List.length_drop, List.length_take, List.length_drop, HL.out] at hb
      have HE : Hid (Lib.index (s.extract (i + 2) s.size).data.toList (s.extract i (i + 2)).data.toList = e) := by
        rw [Hid, Lib.extract_to_end, Lib.extract_data]; exact he
      have Hz : Hid ((s.extract (i + 2) s.size).size < 4294967281) := by rw [Hid, Lib.size_eq, Lib.extract_to_end, List.length_drop, HL.out]; omega
      have HG : Hid (Sq.dolAt s.data.toList i = if e < 0 then s.data.toList.length else i + 1 + 1 + e.toNat + (i + 1 + 1 - i)) := HF
      clear HF he hx36
      by_cases h0 : e < 0
      · clear hb
        go_enter Try.func28, Try.ntmps28
        go_wp2_with (first
          | (go_at_call 37; refine (isWordStart_any x _).mono ?_; rintro e w' ⟨rfl, rfl⟩; rw [hw1])
          | (go_at_call 38; refine (Try.strings_Index _ _ _ _ Hz.out hm).mono ?_; rintro e w' ⟨rfl, rfl⟩; rw [HE.out]))
        go_ret
        exact ⟨ret_int (by rw [HG.out, if_pos h0, HL.out]), rfl⟩
      · have hb2 := hb (by omega)
        clear hb
        go_enter Try.func28, Try.ntmps28
        go_wp2_with (first
          | (go_at_call 37; refine (isWordStart_any x _).mono ?_; rintro e w' ⟨rfl, rfl⟩; rw [hw1])
          | (go_at_call 38; refine (Try.strings_Index _ _ _ _ Hz.out hm).mono ?_; rintro e w' ⟨rfl, rfl⟩; rw [HE.out]))
        go_ret
        exact ⟨ret_int (by rw [HG.out, if_neg (by omega)]; go_num), rfl⟩
end Go.Proofs.Qxb6603812a
